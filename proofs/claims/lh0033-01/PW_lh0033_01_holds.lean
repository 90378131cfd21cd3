import PyProof.Rows.All
import Wide.All
import OpenK.AllK
import Wide.FinOn
import PySem.Challenge.RW_lh0033_01
section
set_option compiler.extract_closed false
section
open PySem PySem.W PyProof.Rows PySem.Calls
set_option Elab.async false
set_option maxRecDepth 100000
namespace Mine

/-! ## The written part of the heap, by reference to the program's own constant -/
noncomputable abbrev pw : Program := PySem.Challenge.pw_lh0033_01
noncomputable abbrev takeP {x : Stmt} {n : Str} {a : Arguments} {b : List Stmt} {d : List Expr} {r : Option Expr} {t : List TypeParam} {s : Scope} {ts : Option Scope} {bn : Str} {p : Pos} (_ : x = .FunctionDef n a b d r t s ts bn p) : Arguments := a
noncomputable abbrev takeB {x : Stmt} {n : Str} {a : Arguments} {b : List Stmt} {d : List Expr} {r : Option Expr} {t : List TypeParam} {s : Scope} {ts : Option Scope} {bn : Str} {p : Pos} (_ : x = .FunctionDef n a b d r t s ts bn p) : List Stmt := b
noncomputable abbrev takeS {x : Stmt} {n : Str} {a : Arguments} {b : List Stmt} {d : List Expr} {r : Option Expr} {t : List TypeParam} {s : Scope} {ts : Option Scope} {bn : Str} {p : Pos} (_ : x = .FunctionDef n a b d r t s ts bn p) : Scope := s
noncomputable def st (i : Nat) : Stmt := PySem.Challenge.pw_lh0033_01.main.body.getD i (.Pass ⟨0, 0, 0, 0⟩)
noncomputable def mt (i j : Nat) : Stmt := match st i with
  | .ClassDef _ _ _ b .. => b.getD j (.Pass ⟨0, 0, 0, 0⟩)
  | s => s
noncomputable abbrev par28 : Arguments := takeP (x := st 2) rfl
noncomputable abbrev bod28 : List Stmt := takeB (x := st 2) rfl
noncomputable abbrev sco28 : Scope := takeS (x := st 2) rfl
noncomputable abbrev par35 : Arguments := takeP (x := st 3) rfl
noncomputable abbrev bod35 : List Stmt := takeB (x := st 3) rfl
noncomputable abbrev sco35 : Scope := takeS (x := st 3) rfl
noncomputable abbrev par42 : Arguments := takeP (x := st 4) rfl
noncomputable abbrev bod42 : List Stmt := takeB (x := st 4) rfl
noncomputable abbrev sco42 : Scope := takeS (x := st 4) rfl
noncomputable abbrev par49 : Arguments := takeP (x := st 5) rfl
noncomputable abbrev bod49 : List Stmt := takeB (x := st 5) rfl
noncomputable abbrev sco49 : Scope := takeS (x := st 5) rfl
noncomputable abbrev par56 : Arguments := takeP (x := st 6) rfl
noncomputable abbrev bod56 : List Stmt := takeB (x := st 6) rfl
noncomputable abbrev sco56 : Scope := takeS (x := st 6) rfl
noncomputable abbrev par63 : Arguments := takeP (x := st 7) rfl
noncomputable abbrev bod63 : List Stmt := takeB (x := st 7) rfl
noncomputable abbrev sco63 : Scope := takeS (x := st 7) rfl
noncomputable abbrev par70 : Arguments := takeP (x := st 10) rfl
noncomputable abbrev bod70 : List Stmt := takeB (x := st 10) rfl
noncomputable abbrev sco70 : Scope := takeS (x := st 10) rfl
noncomputable abbrev par77 : Arguments := takeP (x := st 11) rfl
noncomputable abbrev bod77 : List Stmt := takeB (x := st 11) rfl
noncomputable abbrev sco77 : Scope := takeS (x := st 11) rfl
noncomputable abbrev par105 : Arguments := takeP (x := mt 16 0) rfl
noncomputable abbrev bod105 : List Stmt := takeB (x := mt 16 0) rfl
noncomputable abbrev sco105 : Scope := takeS (x := mt 16 0) rfl
noncomputable abbrev par232 : Arguments := takeP (x := mt 16 18) rfl
noncomputable abbrev bod232 : List Stmt := takeB (x := mt 16 18) rfl
noncomputable abbrev sco232 : Scope := takeS (x := mt 16 18) rfl
noncomputable abbrev par265 : Arguments := takeP (x := mt 17 0) rfl
noncomputable abbrev bod265 : List Stmt := takeB (x := mt 17 0) rfl
noncomputable abbrev sco265 : Scope := takeS (x := mt 17 0) rfl
noncomputable abbrev par272 : Arguments := takeP (x := mt 17 1) rfl
noncomputable abbrev bod272 : List Stmt := takeB (x := mt 17 1) rfl
noncomputable abbrev sco272 : Scope := takeS (x := mt 17 1) rfl
noncomputable abbrev par392 : Arguments := takeP (x := mt 18 0) rfl
noncomputable abbrev bod392 : List Stmt := takeB (x := mt 18 0) rfl
noncomputable abbrev sco392 : Scope := takeS (x := mt 18 0) rfl
noncomputable abbrev par412 : Arguments := takeP (x := st 20) rfl
noncomputable abbrev bod412 : List Stmt := takeB (x := st 20) rfl
noncomputable abbrev sco412 : Scope := takeS (x := st 20) rfl
noncomputable abbrev par419 : Arguments := takeP (x := st 21) rfl
noncomputable abbrev bod419 : List Stmt := takeB (x := st 21) rfl
noncomputable abbrev sco419 : Scope := takeS (x := st 21) rfl
noncomputable abbrev par426 : Arguments := takeP (x := st 22) rfl
noncomputable abbrev bod426 : List Stmt := takeB (x := st 22) rfl
noncomputable abbrev sco426 : Scope := takeS (x := st 22) rfl
noncomputable abbrev par433 : Arguments := takeP (x := st 23) rfl
noncomputable abbrev bod433 : List Stmt := takeB (x := st 23) rfl
noncomputable abbrev sco433 : Scope := takeS (x := st 23) rfl
noncomputable abbrev par438 : Arguments := takeP (x := st 24) rfl
noncomputable abbrev bod438 : List Stmt := takeB (x := st 24) rfl
noncomputable abbrev sco438 : Scope := takeS (x := st 24) rfl
noncomputable abbrev par445 : Arguments := takeP (x := st 25) rfl
noncomputable abbrev bod445 : List Stmt := takeB (x := st 25) rfl
noncomputable abbrev sco445 : Scope := takeS (x := st 25) rfl
noncomputable abbrev par452 : Arguments := takeP (x := st 26) rfl
noncomputable abbrev bod452 : List Stmt := takeB (x := st 26) rfl
noncomputable abbrev sco452 : Scope := takeS (x := st 26) rfl
noncomputable abbrev par457 : Arguments := takeP (x := st 27) rfl
noncomputable abbrev bod457 : List Stmt := takeB (x := st 27) rfl
noncomputable abbrev sco457 : Scope := takeS (x := st 27) rfl
noncomputable abbrev par462 : Arguments := takeP (x := st 28) rfl
noncomputable abbrev bod462 : List Stmt := takeB (x := st 28) rfl
noncomputable abbrev sco462 : Scope := takeS (x := st 28) rfl

noncomputable def Kp : Params → Frag := fun P =>
  ((nat_lit 2, ⟨.none, none, .dict #[] 0, #[]⟩) : Nat × Obj) ::
  ((nat_lit 3, ⟨.type "dict", none, .dict #[⟨PyData.keyHash P (Str.ofString "__name__"), .str (Str.ofString "__name__") 165, .str (Str.ofString "law_lh0033_01") 717⟩, ⟨PyData.keyHash P (Str.ofString "__doc__"), .str (Str.ofString "__doc__") 166, .none⟩, ⟨PyData.keyHash P (Str.ofString "__package__"), .str (Str.ofString "__package__") 167, .none⟩, ⟨PyData.keyHash P (Str.ofString "__loader__"), .str (Str.ofString "__loader__") 168, .builtin "__main__.__loader__#opaque"⟩, ⟨PyData.keyHash P (Str.ofString "__spec__"), .str (Str.ofString "__spec__") 169, .none⟩, ⟨PyData.keyHash P (Str.ofString "__annotations__"), .str (Str.ofString "__annotations__") 170, .ref 6⟩, ⟨PyData.keyHash P (Str.ofString "__builtins__"), .str (Str.ofString "__builtins__") 171, .ref 4⟩, ⟨PyData.keyHash P (Str.ofString "__file__"), .str (Str.ofString "__file__") 173, .str (Str.ofString "/claim/cut.py") 172⟩, ⟨PyData.keyHash P (Str.ofString "__cached__"), .str (Str.ofString "__cached__") 174, .none⟩, ⟨PyData.keyHash P (Str.ofString "_wall"), .str (Str.ofString "_wall") 193, .ref 21⟩, ⟨PyData.keyHash P (Str.ofString "hkdf_extract"), .str (Str.ofString "hkdf_extract") 204, .ref 28⟩, ⟨PyData.keyHash P (Str.ofString "hkdf_expand"), .str (Str.ofString "hkdf_expand") 219, .ref 35⟩, ⟨PyData.keyHash P (Str.ofString "i2osp"), .str (Str.ofString "i2osp") 227, .ref 42⟩, ⟨PyData.keyHash P (Str.ofString "os2ip"), .str (Str.ofString "os2ip") 234, .ref 49⟩, ⟨PyData.keyHash P (Str.ofString "xor"), .str (Str.ofString "xor") 242, .ref 56⟩, ⟨PyData.keyHash P (Str.ofString "expand_message_xmd"), .str (Str.ofString "expand_message_xmd") 262, .ref 63⟩, ⟨PyData.keyHash P (Str.ofString "HASH_TO_FIELD_L"), .str (Str.ofString "HASH_TO_FIELD_L") 264, .int (64) 263⟩, ⟨PyData.keyHash P (Str.ofString "hash_to_field_FQ2"), .str (Str.ofString "hash_to_field_FQ2") 288, .ref 70⟩, ⟨PyData.keyHash P (Str.ofString "hash_to_field_FQ"), .str (Str.ofString "hash_to_field_FQ") 308, .ref 77⟩, ⟨PyData.keyHash P (Str.ofString "prime_field_inv"), .str (Str.ofString "prime_field_inv") 325, .ref 84⟩, ⟨PyData.keyHash P (Str.ofString "deg"), .str (Str.ofString "deg") 333, .ref 91⟩, ⟨PyData.keyHash P (Str.ofString "FQ"), .str (Str.ofString "FQ") 529, .ref 249⟩, ⟨PyData.keyHash P (Str.ofString "FQP"), .str (Str.ofString "FQP") 684, .ref 374⟩, ⟨PyData.keyHash P (Str.ofString "FQ2"), .str (Str.ofString "FQ2") 716, .ref 403⟩, ⟨PyData.keyHash P (Str.ofString "_law_at"), .str (Str.ofString "_law_at") 727, .ref 412⟩, ⟨PyData.keyHash P (Str.ofString "_law_octets"), .str (Str.ofString "_law_octets") 737, .ref 419⟩, ⟨PyData.keyHash P (Str.ofString "_law_hash"), .str (Str.ofString "_law_hash") 746, .ref 426⟩, ⟨PyData.keyHash P (Str.ofString "_law_keyed"), .str (Str.ofString "_law_keyed") 755, .ref 433⟩, ⟨PyData.keyHash P (Str.ofString "_law_laid"), .str (Str.ofString "_law_laid") 761, .ref 438⟩, ⟨PyData.keyHash P (Str.ofString "_law_expanded"), .str (Str.ofString "_law_expanded") 779, .ref 445⟩, ⟨PyData.keyHash P (Str.ofString "_law_told"), .str (Str.ofString "_law_told") 791, .ref 452⟩, ⟨PyData.keyHash P (Str.ofString "_law_keys"), .str (Str.ofString "_law_keys") 797, .ref 457⟩, ⟨PyData.keyHash P (Str.ofString "law"), .str (Str.ofString "law") 803, .ref 462⟩] 33, #[]⟩) : Nat × Obj) ::
  ((nat_lit 27, ⟨.type "code", none, .fields #[.str (Str.ofString "hkdf_extract") 196, .str (Str.ofString "hkdf_extract") 197, .str (Str.ofString "/claim/cut.py") 198, .int (5) 0, .int (3) 0, .int (0) 0, .int (0) 0, .int (3) 0, .ref 22, .bool true, .int (181) 0, .ref 23, .none, .ref 24, .ref 25, .ref 26, .int (202) 0, .int (5) 0, .str (Str.ofString "/claim/cut.py") 203], #[]⟩) : Nat × Obj) ::
  ((nat_lit 28, ⟨.type "function", none, .func { name := (Str.ofString "hkdf_extract"), qualname := (Str.ofString "hkdf_extract"), params := par28, body := .stmts bod28, scope := sco28, globals := 3, closure := [], defaults := .none, kwdefaults := .none, doc := .none, pyModule := .str (Str.ofString "py_ecc.bls.hash") 194, annotations := none, code := .ref 27, closureTuple := .none, builtins := 0 }, #[]⟩) : Nat × Obj) ::
  ((nat_lit 34, ⟨.type "code", none, .fields #[.str (Str.ofString "hkdf_expand") 205, .str (Str.ofString "hkdf_expand") 206, .str (Str.ofString "/claim/cut.py") 207, .int (7) 0, .int (4) 0, .int (0) 0, .int (0) 0, .int (3) 0, .ref 29, .bool true, .int (181) 0, .ref 30, .none, .ref 31, .ref 32, .ref 33, .int (217) 0, .int (7) 0, .str (Str.ofString "/claim/cut.py") 218], #[]⟩) : Nat × Obj) ::
  ((nat_lit 35, ⟨.type "function", none, .func { name := (Str.ofString "hkdf_expand"), qualname := (Str.ofString "hkdf_expand"), params := par35, body := .stmts bod35, scope := sco35, globals := 3, closure := [], defaults := .none, kwdefaults := .none, doc := .none, pyModule := .str (Str.ofString "py_ecc.bls.hash") 194, annotations := none, code := .ref 34, closureTuple := .none, builtins := 0 }, #[]⟩) : Nat × Obj) ::
  ((nat_lit 41, ⟨.type "code", none, .fields #[.str (Str.ofString "i2osp") 220, .str (Str.ofString "i2osp") 221, .str (Str.ofString "/claim/cut.py") 222, .int (16) 0, .int (2) 0, .int (0) 0, .int (0) 0, .int (3) 0, .ref 36, .bool true, .int (181) 0, .ref 37, .none, .ref 38, .ref 39, .ref 40, .int (225) 0, .int (16) 0, .str (Str.ofString "/claim/cut.py") 226], #[]⟩) : Nat × Obj) ::
  ((nat_lit 42, ⟨.type "function", none, .func { name := (Str.ofString "i2osp"), qualname := (Str.ofString "i2osp"), params := par42, body := .stmts bod42, scope := sco42, globals := 3, closure := [], defaults := .none, kwdefaults := .none, doc := .none, pyModule := .str (Str.ofString "py_ecc.bls.hash") 194, annotations := none, code := .ref 41, closureTuple := .none, builtins := 0 }, #[]⟩) : Nat × Obj) ::
  ((nat_lit 48, ⟨.type "code", none, .fields #[.str (Str.ofString "os2ip") 228, .str (Str.ofString "os2ip") 229, .str (Str.ofString "/claim/cut.py") 230, .int (18) 0, .int (1) 0, .int (0) 0, .int (0) 0, .int (3) 0, .ref 43, .bool true, .int (181) 0, .ref 44, .none, .ref 45, .ref 46, .ref 47, .int (232) 0, .int (18) 0, .str (Str.ofString "/claim/cut.py") 233], #[]⟩) : Nat × Obj) ::
  ((nat_lit 49, ⟨.type "function", none, .func { name := (Str.ofString "os2ip"), qualname := (Str.ofString "os2ip"), params := par49, body := .stmts bod49, scope := sco49, globals := 3, closure := [], defaults := .none, kwdefaults := .none, doc := .none, pyModule := .str (Str.ofString "py_ecc.bls.hash") 194, annotations := none, code := .ref 48, closureTuple := .none, builtins := 0 }, #[]⟩) : Nat × Obj) ::
  ((nat_lit 55, ⟨.type "code", none, .fields #[.str (Str.ofString "xor") 235, .str (Str.ofString "xor") 236, .str (Str.ofString "/claim/cut.py") 237, .int (20) 0, .int (2) 0, .int (0) 0, .int (0) 0, .int (3) 0, .ref 50, .bool true, .int (181) 0, .ref 51, .none, .ref 52, .ref 53, .ref 54, .int (240) 0, .int (20) 0, .str (Str.ofString "/claim/cut.py") 241], #[]⟩) : Nat × Obj) ::
  ((nat_lit 56, ⟨.type "function", none, .func { name := (Str.ofString "xor"), qualname := (Str.ofString "xor"), params := par56, body := .stmts bod56, scope := sco56, globals := 3, closure := [], defaults := .none, kwdefaults := .none, doc := .none, pyModule := .str (Str.ofString "py_ecc.bls.hash") 194, annotations := none, code := .ref 55, closureTuple := .none, builtins := 0 }, #[]⟩) : Nat × Obj) ::
  ((nat_lit 62, ⟨.type "code", none, .fields #[.str (Str.ofString "expand_message_xmd") 243, .str (Str.ofString "expand_message_xmd") 244, .str (Str.ofString "/claim/cut.py") 245, .int (22) 0, .int (6) 0, .int (0) 0, .int (0) 0, .int (3) 0, .ref 57, .bool true, .int (181) 0, .ref 58, .none, .ref 59, .ref 60, .ref 61, .int (260) 0, .int (22) 0, .str (Str.ofString "/claim/cut.py") 261], #[]⟩) : Nat × Obj) ::
  ((nat_lit 63, ⟨.type "function", none, .func { name := (Str.ofString "expand_message_xmd"), qualname := (Str.ofString "expand_message_xmd"), params := par63, body := .stmts bod63, scope := sco63, globals := 3, closure := [], defaults := .none, kwdefaults := .none, doc := .none, pyModule := .str (Str.ofString "py_ecc.bls.hash") 194, annotations := none, code := .ref 62, closureTuple := .none, builtins := 0 }, #[]⟩) : Nat × Obj) ::
  ((nat_lit 69, ⟨.type "code", none, .fields #[.str (Str.ofString "hash_to_field_FQ2") 267, .str (Str.ofString "hash_to_field_FQ2") 268, .str (Str.ofString "/claim/cut.py") 269, .int (39) 0, .int (7) 0, .int (0) 0, .int (0) 0, .int (3) 0, .ref 64, .bool true, .int (181) 0, .ref 65, .none, .ref 66, .ref 67, .ref 68, .int (286) 0, .int (39) 0, .str (Str.ofString "/claim/cut.py") 287], #[]⟩) : Nat × Obj) ::
  ((nat_lit 70, ⟨.type "function", none, .func { name := (Str.ofString "hash_to_field_FQ2"), qualname := (Str.ofString "hash_to_field_FQ2"), params := par70, body := .stmts bod70, scope := sco70, globals := 3, closure := [], defaults := .none, kwdefaults := .none, doc := .none, pyModule := .str (Str.ofString "py_ecc.bls.hash_to_curve") 265, annotations := none, code := .ref 69, closureTuple := .none, builtins := 0 }, #[]⟩) : Nat × Obj) ::
  ((nat_lit 76, ⟨.type "code", none, .fields #[.str (Str.ofString "hash_to_field_FQ") 289, .str (Str.ofString "hash_to_field_FQ") 290, .str (Str.ofString "/claim/cut.py") 291, .int (52) 0, .int (7) 0, .int (0) 0, .int (0) 0, .int (3) 0, .ref 71, .bool true, .int (181) 0, .ref 72, .none, .ref 73, .ref 74, .ref 75, .int (306) 0, .int (52) 0, .str (Str.ofString "/claim/cut.py") 307], #[]⟩) : Nat × Obj) ::
  ((nat_lit 77, ⟨.type "function", none, .func { name := (Str.ofString "hash_to_field_FQ"), qualname := (Str.ofString "hash_to_field_FQ"), params := par77, body := .stmts bod77, scope := sco77, globals := 3, closure := [], defaults := .none, kwdefaults := .none, doc := .none, pyModule := .str (Str.ofString "py_ecc.bls.hash_to_curve") 265, annotations := none, code := .ref 76, closureTuple := .none, builtins := 0 }, #[]⟩) : Nat × Obj) ::
  ((nat_lit 104, ⟨.type "code", none, .fields #[.str (Str.ofString "__init__") 348, .str (Str.ofString "FQ.__init__") 349, .str (Str.ofString "/claim/cut.py") 350, .int (82) 0, .int (3) 0, .int (0) 0, .int (0) 0, .int (3) 0, .ref 99, .bool true, .int (181) 0, .ref 100, .none, .ref 101, .ref 102, .ref 103, .int (354) 0, .int (82) 0, .str (Str.ofString "/claim/cut.py") 355], #[]⟩) : Nat × Obj) ::
  ((nat_lit 105, ⟨.type "function", none, .func { name := (Str.ofString "__init__"), qualname := (Str.ofString "FQ.__init__"), params := par105, body := .stmts bod105, scope := sco105, globals := 3, closure := [], defaults := .none, kwdefaults := .none, doc := .none, pyModule := .str (Str.ofString "py_ecc.fields.optimized_field_elements") 334, annotations := none, code := .ref 104, closureTuple := .none, builtins := 0 }, #[]⟩) : Nat × Obj) ::
  ((nat_lit 231, ⟨.type "code", none, .fields #[.str (Str.ofString "made") 497, .str (Str.ofString "FQ.made") 498, .str (Str.ofString "/claim/cut.py") 499, .int (197) 0, .int (2) 0, .int (0) 0, .int (0) 0, .int (3) 0, .ref 226, .bool true, .int (181) 0, .ref 227, .none, .ref 228, .ref 229, .ref 230, .int (502) 0, .int (197) 0, .str (Str.ofString "/claim/cut.py") 503], #[]⟩) : Nat × Obj) ::
  ((nat_lit 232, ⟨.type "function", none, .func { name := (Str.ofString "made"), qualname := (Str.ofString "FQ.made"), params := par232, body := .stmts bod232, scope := sco232, globals := 3, closure := [], defaults := .none, kwdefaults := .none, doc := .none, pyModule := .str (Str.ofString "py_ecc.fields.optimized_field_elements") 334, annotations := none, code := .ref 231, closureTuple := .none, builtins := 0 }, #[]⟩) : Nat × Obj) ::
  ((nat_lit 248, ⟨.type "dict", none, .dict #[⟨PyData.keyHash P (Str.ofString "__module__"), .str (Str.ofString "__module__") 343, .str (Str.ofString "py_ecc.fields.optimized_field_elements") 334⟩, ⟨PyData.keyHash P (Str.ofString "__firstlineno__"), .str (Str.ofString "__firstlineno__") 347, .int (80) 346⟩, ⟨PyData.keyHash P (Str.ofString "__init__"), .str (Str.ofString "__init__") 356, .ref 105⟩, ⟨PyData.keyHash P (Str.ofString "__add__"), .str (Str.ofString "__add__") 365, .ref 112⟩, ⟨PyData.keyHash P (Str.ofString "__mul__"), .str (Str.ofString "__mul__") 374, .ref 119⟩, ⟨PyData.keyHash P (Str.ofString "__rmul__"), .str (Str.ofString "__rmul__") 382, .ref 126⟩, ⟨PyData.keyHash P (Str.ofString "__radd__"), .str (Str.ofString "__radd__") 390, .ref 133⟩, ⟨PyData.keyHash P (Str.ofString "__rsub__"), .str (Str.ofString "__rsub__") 399, .ref 140⟩, ⟨PyData.keyHash P (Str.ofString "__sub__"), .str (Str.ofString "__sub__") 408, .ref 147⟩, ⟨PyData.keyHash P (Str.ofString "__mod__"), .str (Str.ofString "__mod__") 416, .ref 154⟩, ⟨PyData.keyHash P (Str.ofString "__truediv__"), .str (Str.ofString "__truediv__") 425, .ref 161⟩, ⟨PyData.keyHash P (Str.ofString "__rtruediv__"), .str (Str.ofString "__rtruediv__") 434, .ref 168⟩, ⟨PyData.keyHash P (Str.ofString "__pow__"), .str (Str.ofString "__pow__") 442, .ref 175⟩, ⟨PyData.keyHash P (Str.ofString "__eq__"), .str (Str.ofString "__eq__") 450, .ref 182⟩, ⟨PyData.keyHash P (Str.ofString "__ne__"), .str (Str.ofString "__ne__") 458, .ref 189⟩, ⟨PyData.keyHash P (Str.ofString "__neg__"), .str (Str.ofString "__neg__") 465, .ref 196⟩, ⟨PyData.keyHash P (Str.ofString "__repr__"), .str (Str.ofString "__repr__") 472, .ref 203⟩, ⟨PyData.keyHash P (Str.ofString "__int__"), .str (Str.ofString "__int__") 479, .ref 210⟩, ⟨PyData.keyHash P (Str.ofString "__lt__"), .str (Str.ofString "__lt__") 488, .ref 217⟩, ⟨PyData.keyHash P (Str.ofString "sgn0"), .str (Str.ofString "sgn0") 496, .ref 225⟩, ⟨PyData.keyHash P (Str.ofString "made"), .str (Str.ofString "made") 504, .ref 232⟩, ⟨PyData.keyHash P (Str.ofString "one"), .str (Str.ofString "one") 511, .ref 239⟩, ⟨PyData.keyHash P (Str.ofString "zero"), .str (Str.ofString "zero") 518, .ref 246⟩, ⟨PyData.keyHash P (Str.ofString "__static_attributes__"), .str (Str.ofString "__static_attributes__") 521, .ref 247⟩, ⟨PyData.keyHash P (Str.ofString "__dict__"), .str (Str.ofString "__dict__") 523, .ref 250⟩, ⟨PyData.keyHash P (Str.ofString "__weakref__"), .str (Str.ofString "__weakref__") 525, .ref 251⟩, ⟨PyData.keyHash P (Str.ofString "__doc__"), .str (Str.ofString "__doc__") 526, .none⟩, ⟨PyData.keyHash P (Str.ofString "__hash__"), .str (Str.ofString "__hash__") 527, .none⟩] 5, #[]⟩) : Nat × Obj) ::
  ((nat_lit 249, ⟨.type "type", none, .cls { name := (Str.ofString "FQ"), bases := [.type "object"], mro := [.ref 249, .type "object"], ns := 248, qualname := (Str.ofString "FQ"), hasDict := true, slotNames := [], subclasses := [], abstract := false, collection := none, hasDel := false }, #[none, none, some (.str (Str.ofString "FQ") 336), some (.str (Str.ofString "FQ") 344), some (.builtin "object.__new__"), some (.bool true)]⟩) : Nat × Obj) ::
  ((nat_lit 264, ⟨.type "code", none, .fields #[.str (Str.ofString "__init__") 542, .str (Str.ofString "FQP.__init__") 543, .str (Str.ofString "/claim/cut.py") 544, .int (207) 0, .int (4) 0, .int (0) 0, .int (0) 0, .int (3) 0, .ref 261, .bool true, .int (181) 0, .ref 262, .none, .none, .none, .ref 263, .int (545) 0, .int (207) 0, .str (Str.ofString "/claim/cut.py") 546], #[]⟩) : Nat × Obj) ::
  ((nat_lit 265, ⟨.type "function", none, .func { name := (Str.ofString "__init__"), qualname := (Str.ofString "FQP.__init__"), params := par265, body := .stmts bod265, scope := sco265, globals := 3, closure := [], defaults := .none, kwdefaults := .none, doc := .none, pyModule := .str (Str.ofString "py_ecc.fields.optimized_field_elements") 334, annotations := none, code := .ref 264, closureTuple := .none, builtins := 0 }, #[]⟩) : Nat × Obj) ::
  ((nat_lit 271, ⟨.type "code", none, .fields #[.str (Str.ofString "made") 548, .str (Str.ofString "FQP.made") 549, .str (Str.ofString "/claim/cut.py") 550, .int (219) 0, .int (2) 0, .int (0) 0, .int (0) 0, .int (3) 0, .ref 266, .bool true, .int (181) 0, .ref 267, .none, .ref 268, .ref 269, .ref 270, .int (553) 0, .int (219) 0, .str (Str.ofString "/claim/cut.py") 554], #[]⟩) : Nat × Obj) ::
  ((nat_lit 272, ⟨.type "function", none, .func { name := (Str.ofString "made"), qualname := (Str.ofString "FQP.made"), params := par272, body := .stmts bod272, scope := sco272, globals := 3, closure := [], defaults := .none, kwdefaults := .none, doc := .none, pyModule := .str (Str.ofString "py_ecc.fields.optimized_field_elements") 334, annotations := none, code := .ref 271, closureTuple := .none, builtins := 0 }, #[]⟩) : Nat × Obj) ::
  ((nat_lit 373, ⟨.type "dict", none, .dict #[⟨PyData.keyHash P (Str.ofString "__module__"), .str (Str.ofString "__module__") 537, .str (Str.ofString "py_ecc.fields.optimized_field_elements") 334⟩, ⟨PyData.keyHash P (Str.ofString "__firstlineno__"), .str (Str.ofString "__firstlineno__") 541, .int (205) 540⟩, ⟨PyData.keyHash P (Str.ofString "__init__"), .str (Str.ofString "__init__") 547, .ref 265⟩, ⟨PyData.keyHash P (Str.ofString "made"), .str (Str.ofString "made") 555, .ref 272⟩, ⟨PyData.keyHash P (Str.ofString "__add__"), .str (Str.ofString "__add__") 561, .ref 277⟩, ⟨PyData.keyHash P (Str.ofString "__sub__"), .str (Str.ofString "__sub__") 567, .ref 282⟩, ⟨PyData.keyHash P (Str.ofString "__mod__"), .str (Str.ofString "__mod__") 575, .ref 289⟩, ⟨PyData.keyHash P (Str.ofString "__mul__"), .str (Str.ofString "__mul__") 581, .ref 294⟩, ⟨PyData.keyHash P (Str.ofString "__rmul__"), .str (Str.ofString "__rmul__") 589, .ref 301⟩, ⟨PyData.keyHash P (Str.ofString "__truediv__"), .str (Str.ofString "__truediv__") 595, .ref 306⟩, ⟨PyData.keyHash P (Str.ofString "__pow__"), .str (Str.ofString "__pow__") 605, .ref 313⟩, ⟨PyData.keyHash P (Str.ofString "optimized_poly_rounded_div"), .str (Str.ofString "optimized_poly_rounded_div") 611, .ref 318⟩, ⟨PyData.keyHash P (Str.ofString "inv"), .str (Str.ofString "inv") 617, .ref 323⟩, ⟨PyData.keyHash P (Str.ofString "__repr__"), .str (Str.ofString "__repr__") 624, .ref 330⟩, ⟨PyData.keyHash P (Str.ofString "__eq__"), .str (Str.ofString "__eq__") 634, .ref 337⟩, ⟨PyData.keyHash P (Str.ofString "__ne__"), .str (Str.ofString "__ne__") 642, .ref 344⟩, ⟨PyData.keyHash P (Str.ofString "__neg__"), .str (Str.ofString "__neg__") 648, .ref 349⟩, ⟨PyData.keyHash P (Str.ofString "sgn0"), .str (Str.ofString "sgn0") 656, .ref 357⟩, ⟨PyData.keyHash P (Str.ofString "one"), .str (Str.ofString "one") 663, .ref 364⟩, ⟨PyData.keyHash P (Str.ofString "zero"), .str (Str.ofString "zero") 670, .ref 371⟩, ⟨PyData.keyHash P (Str.ofString "__static_attributes__"), .str (Str.ofString "__static_attributes__") 676, .ref 372⟩, ⟨PyData.keyHash P (Str.ofString "__dict__"), .str (Str.ofString "__dict__") 678, .ref 375⟩, ⟨PyData.keyHash P (Str.ofString "__weakref__"), .str (Str.ofString "__weakref__") 680, .ref 376⟩, ⟨PyData.keyHash P (Str.ofString "__doc__"), .str (Str.ofString "__doc__") 681, .none⟩, ⟨PyData.keyHash P (Str.ofString "__hash__"), .str (Str.ofString "__hash__") 682, .none⟩] 5, #[]⟩) : Nat × Obj) ::
  ((nat_lit 374, ⟨.type "type", none, .cls { name := (Str.ofString "FQP"), bases := [.type "object"], mro := [.ref 374, .type "object"], ns := 373, qualname := (Str.ofString "FQP"), hasDict := true, slotNames := [], subclasses := [.ref 403], abstract := false, collection := none, hasDel := false }, #[none, none, some (.str (Str.ofString "FQP") 530), some (.str (Str.ofString "FQP") 538), some (.builtin "object.__new__"), some (.bool true)]⟩) : Nat × Obj) ::
  ((nat_lit 391, ⟨.type "code", none, .fields #[.str (Str.ofString "made") 697, .str (Str.ofString "FQ2.made") 698, .str (Str.ofString "/claim/cut.py") 699, .int (329) 0, .int (2) 0, .int (0) 0, .int (0) 0, .int (3) 0, .ref 386, .bool true, .int (181) 0, .ref 387, .none, .ref 388, .ref 389, .ref 390, .int (702) 0, .int (329) 0, .str (Str.ofString "/claim/cut.py") 703], #[]⟩) : Nat × Obj) ::
  ((nat_lit 392, ⟨.type "function", none, .func { name := (Str.ofString "made"), qualname := (Str.ofString "FQ2.made"), params := par392, body := .stmts bod392, scope := sco392, globals := 3, closure := [], defaults := .none, kwdefaults := .none, doc := .none, pyModule := .str (Str.ofString "py_ecc.fields.optimized_field_elements") 334, annotations := none, code := .ref 391, closureTuple := .none, builtins := 0 }, #[]⟩) : Nat × Obj) ::
  ((nat_lit 402, ⟨.type "dict", none, .dict #[⟨PyData.keyHash P (Str.ofString "__module__"), .str (Str.ofString "__module__") 692, .str (Str.ofString "py_ecc.fields.optimized_field_elements") 334⟩, ⟨PyData.keyHash P (Str.ofString "__firstlineno__"), .str (Str.ofString "__firstlineno__") 696, .int (327) 695⟩, ⟨PyData.keyHash P (Str.ofString "made"), .str (Str.ofString "made") 704, .ref 392⟩, ⟨PyData.keyHash P (Str.ofString "sgn0"), .str (Str.ofString "sgn0") 712, .ref 400⟩, ⟨PyData.keyHash P (Str.ofString "__static_attributes__"), .str (Str.ofString "__static_attributes__") 713, .ref 401⟩, ⟨PyData.keyHash P (Str.ofString "__doc__"), .str (Str.ofString "__doc__") 714, .none⟩] 2, #[]⟩) : Nat × Obj) ::
  ((nat_lit 403, ⟨.type "type", none, .cls { name := (Str.ofString "FQ2"), bases := [.ref 374], mro := [.ref 403, .ref 374, .type "object"], ns := 402, qualname := (Str.ofString "FQ2"), hasDict := true, slotNames := [], subclasses := [], abstract := false, collection := none, hasDel := false }, #[some (.ref 379), none, some (.str (Str.ofString "FQ2") 685), some (.str (Str.ofString "FQ2") 693), some (.builtin "object.__new__"), some (.bool true)]⟩) : Nat × Obj) ::
  ((nat_lit 411, ⟨.type "code", none, .fields #[.str (Str.ofString "_law_at") 719, .str (Str.ofString "_law_at") 720, .str (Str.ofString "/claim/cut.py") 721, .int (336) 0, .int (2) 0, .int (0) 0, .int (0) 0, .int (3) 0, .ref 406, .bool true, .int (181) 0, .ref 407, .none, .ref 408, .ref 409, .ref 410, .int (725) 0, .int (336) 0, .str (Str.ofString "/claim/cut.py") 726], #[]⟩) : Nat × Obj) ::
  ((nat_lit 412, ⟨.type "function", none, .func { name := (Str.ofString "_law_at"), qualname := (Str.ofString "_law_at"), params := par412, body := .stmts bod412, scope := sco412, globals := 3, closure := [], defaults := .none, kwdefaults := .none, doc := .none, pyModule := .str (Str.ofString "law_lh0033_01") 717, annotations := none, code := .ref 411, closureTuple := .none, builtins := 0 }, #[]⟩) : Nat × Obj) ::
  ((nat_lit 418, ⟨.type "code", none, .fields #[.str (Str.ofString "_law_octets") 728, .str (Str.ofString "_law_octets") 729, .str (Str.ofString "/claim/cut.py") 730, .int (339) 0, .int (2) 0, .int (0) 0, .int (0) 0, .int (3) 0, .ref 413, .bool true, .int (181) 0, .ref 414, .none, .ref 415, .ref 416, .ref 417, .int (735) 0, .int (339) 0, .str (Str.ofString "/claim/cut.py") 736], #[]⟩) : Nat × Obj) ::
  ((nat_lit 419, ⟨.type "function", none, .func { name := (Str.ofString "_law_octets"), qualname := (Str.ofString "_law_octets"), params := par419, body := .stmts bod419, scope := sco419, globals := 3, closure := [], defaults := .none, kwdefaults := .none, doc := .none, pyModule := .str (Str.ofString "law_lh0033_01") 717, annotations := none, code := .ref 418, closureTuple := .none, builtins := 0 }, #[]⟩) : Nat × Obj) ::
  ((nat_lit 425, ⟨.type "code", none, .fields #[.str (Str.ofString "_law_hash") 738, .str (Str.ofString "_law_hash") 739, .str (Str.ofString "/claim/cut.py") 740, .int (345) 0, .int (1) 0, .int (0) 0, .int (0) 0, .int (3) 0, .ref 420, .bool true, .int (181) 0, .ref 421, .none, .ref 422, .ref 423, .ref 424, .int (744) 0, .int (345) 0, .str (Str.ofString "/claim/cut.py") 745], #[]⟩) : Nat × Obj) ::
  ((nat_lit 426, ⟨.type "function", none, .func { name := (Str.ofString "_law_hash"), qualname := (Str.ofString "_law_hash"), params := par426, body := .stmts bod426, scope := sco426, globals := 3, closure := [], defaults := .none, kwdefaults := .none, doc := .none, pyModule := .str (Str.ofString "law_lh0033_01") 717, annotations := none, code := .ref 425, closureTuple := .none, builtins := 0 }, #[]⟩) : Nat × Obj) ::
  ((nat_lit 432, ⟨.type "code", none, .fields #[.str (Str.ofString "_law_keyed") 747, .str (Str.ofString "_law_keyed") 748, .str (Str.ofString "/claim/cut.py") 749, .int (353) 0, .int (2) 0, .int (0) 0, .int (0) 0, .int (3) 0, .ref 427, .bool true, .int (181) 0, .ref 428, .none, .ref 429, .ref 430, .ref 431, .int (753) 0, .int (353) 0, .str (Str.ofString "/claim/cut.py") 754], #[]⟩) : Nat × Obj) ::
  ((nat_lit 433, ⟨.type "function", none, .func { name := (Str.ofString "_law_keyed"), qualname := (Str.ofString "_law_keyed"), params := par433, body := .stmts bod433, scope := sco433, globals := 3, closure := [], defaults := .none, kwdefaults := .none, doc := .none, pyModule := .str (Str.ofString "law_lh0033_01") 717, annotations := none, code := .ref 432, closureTuple := .none, builtins := 0 }, #[]⟩) : Nat × Obj) ::
  ((nat_lit 437, ⟨.type "code", none, .fields #[.str (Str.ofString "_law_laid") 756, .str (Str.ofString "_law_laid") 757, .str (Str.ofString "/claim/cut.py") 758, .int (356) 0, .int (2) 0, .int (0) 0, .int (0) 0, .int (3) 0, .ref 434, .bool true, .int (181) 0, .ref 435, .none, .none, .none, .ref 436, .int (759) 0, .int (356) 0, .str (Str.ofString "/claim/cut.py") 760], #[]⟩) : Nat × Obj) ::
  ((nat_lit 438, ⟨.type "function", none, .func { name := (Str.ofString "_law_laid"), qualname := (Str.ofString "_law_laid"), params := par438, body := .stmts bod438, scope := sco438, globals := 3, closure := [], defaults := .none, kwdefaults := .none, doc := .none, pyModule := .str (Str.ofString "law_lh0033_01") 717, annotations := none, code := .ref 437, closureTuple := .none, builtins := 0 }, #[]⟩) : Nat × Obj) ::
  ((nat_lit 444, ⟨.type "code", none, .fields #[.str (Str.ofString "_law_expanded") 762, .str (Str.ofString "_law_expanded") 763, .str (Str.ofString "/claim/cut.py") 764, .int (358) 0, .int (6) 0, .int (0) 0, .int (0) 0, .int (3) 0, .ref 439, .bool true, .int (181) 0, .ref 440, .none, .ref 441, .ref 442, .ref 443, .int (777) 0, .int (358) 0, .str (Str.ofString "/claim/cut.py") 778], #[]⟩) : Nat × Obj) ::
  ((nat_lit 445, ⟨.type "function", none, .func { name := (Str.ofString "_law_expanded"), qualname := (Str.ofString "_law_expanded"), params := par445, body := .stmts bod445, scope := sco445, globals := 3, closure := [], defaults := .none, kwdefaults := .none, doc := .none, pyModule := .str (Str.ofString "law_lh0033_01") 717, annotations := none, code := .ref 444, closureTuple := .none, builtins := 0 }, #[]⟩) : Nat × Obj) ::
  ((nat_lit 451, ⟨.type "code", none, .fields #[.str (Str.ofString "_law_told") 780, .str (Str.ofString "_law_told") 781, .str (Str.ofString "/claim/cut.py") 782, .int (369) 0, .int (6) 0, .int (0) 0, .int (0) 0, .int (3) 0, .ref 446, .bool true, .int (181) 0, .ref 447, .none, .ref 448, .ref 449, .ref 450, .int (789) 0, .int (369) 0, .str (Str.ofString "/claim/cut.py") 790], #[]⟩) : Nat × Obj) ::
  ((nat_lit 452, ⟨.type "function", none, .func { name := (Str.ofString "_law_told"), qualname := (Str.ofString "_law_told"), params := par452, body := .stmts bod452, scope := sco452, globals := 3, closure := [], defaults := .none, kwdefaults := .none, doc := .none, pyModule := .str (Str.ofString "law_lh0033_01") 717, annotations := none, code := .ref 451, closureTuple := .none, builtins := 0 }, #[]⟩) : Nat × Obj) ::
  ((nat_lit 456, ⟨.type "code", none, .fields #[.str (Str.ofString "_law_keys") 792, .str (Str.ofString "_law_keys") 793, .str (Str.ofString "/claim/cut.py") 794, .int (374) 0, .int (4) 0, .int (0) 0, .int (0) 0, .int (3) 0, .ref 453, .bool true, .int (181) 0, .ref 454, .none, .none, .none, .ref 455, .int (795) 0, .int (374) 0, .str (Str.ofString "/claim/cut.py") 796], #[]⟩) : Nat × Obj) ::
  ((nat_lit 457, ⟨.type "function", none, .func { name := (Str.ofString "_law_keys"), qualname := (Str.ofString "_law_keys"), params := par457, body := .stmts bod457, scope := sco457, globals := 3, closure := [], defaults := .none, kwdefaults := .none, doc := .none, pyModule := .str (Str.ofString "law_lh0033_01") 717, annotations := none, code := .ref 456, closureTuple := .none, builtins := 0 }, #[]⟩) : Nat × Obj) ::
  ((nat_lit 461, ⟨.type "code", none, .fields #[.str (Str.ofString "law") 798, .str (Str.ofString "law") 799, .str (Str.ofString "/claim/cut.py") 800, .int (384) 0, .int (1) 0, .int (0) 0, .int (0) 0, .int (3) 0, .ref 458, .bool true, .int (181) 0, .ref 459, .none, .none, .none, .ref 460, .int (801) 0, .int (384) 0, .str (Str.ofString "/claim/cut.py") 802], #[]⟩) : Nat × Obj) ::
  ((nat_lit 462, ⟨.type "function", none, .func { name := (Str.ofString "law"), qualname := (Str.ofString "law"), params := par462, body := .stmts bod462, scope := sco462, globals := 3, closure := [], defaults := .none, kwdefaults := .none, doc := .none, pyModule := .str (Str.ofString "law_lh0033_01") 717, annotations := none, code := .ref 461, closureTuple := .none, builtins := 0 }, #[]⟩) : Nat × Obj) :: []
set_option maxHeartbeats 4000000 in
noncomputable def K : Params → Frag := by
  intro P
  refine' (fun (x y : Frag) (_ : y = x) => x) ?x (Kp P) ?h
  case h =>
    unfold Kp
    delta par28 bod28 sco28 par35 bod35 sco35 par42 bod42 sco42 par49 bod49 sco49 par56 bod56 sco56 par63 bod63 sco63 par70 bod70 sco70 par77 bod77 sco77 par105 bod105 sco105 par232 bod232 sco232 par265 bod265 sco265 par272 bod272 sco272 par392 bod392 sco392 par412 bod412 sco412 par419 bod419 sco419 par426 bod426 sco426 par433 bod433 sco433 par438 bod438 sco438 par445 bod445 sco445 par452 bod452 sco452 par457 bod457 sco457 par462 bod462 sco462
    delta takeP takeB takeS
    exact rfl
/-- with the three tables of codes, as the head sees them -/
noncomputable def K2 : Params → Frag := fun P =>
  ((nat_lit 51, ⟨.none, none, .fields #[], #[]⟩) : Nat × Obj) ::
  ((nat_lit 262, ⟨.none, none, .fields #[], #[]⟩) : Nat × Obj) ::
  ((nat_lit 421, ⟨.none, none, .fields #[], #[]⟩) : Nat × Obj) ::
  K P
noncomputable abbrev Kas : List Addr := [51, 262, 421, 2, 3, 27, 28, 34, 35, 41, 42, 48, 49, 55, 56, 62, 63, 69, 70, 76, 77, 104, 105, 231, 232, 248, 249, 264, 265, 271, 272, 373, 374, 391, 392, 402, 403, 411, 412, 418, 419, 425, 426, 432, 433, 437, 438, 444, 445, 451, 452, 456, 457, 461, 462]
theorem Kas_is : ∀ P, Kas = (K2 P).map (·.1) := fun _ => by kernel_rfl
theorem K_none (P : Params) {a : Addr} (h : a = 51 ∨ a = 262 ∨ a = 421) : (K P).lookup a = none := by
  rcases h with rfl | rfl | rfl <;> kernel_rfl
theorem K_of_K2 {P : Params} {h : Heap} (X : (K2 P).In h) : (K P).In h := by
  intro a o e
  refine X a o ?_
  have h1 : a ≠ 51 := fun q => by rw [K_none P (.inl q)] at e; cases e
  have h2 : a ≠ 262 := fun q => by rw [K_none P (.inr (.inl q))] at e; cases e
  have h3 : a ≠ 421 := fun q => by rw [K_none P (.inr (.inr q))] at e; cases e
  unfold K2
  rw [List.lookup_cons, List.lookup_cons, List.lookup_cons, beq_false_of_ne h1, beq_false_of_ne h2, beq_false_of_ne h3]
  exact e
end Mine
end
section
open PySem PySem.W PyProof.Rows PySem.Calls
set_option Elab.async false
set_option maxRecDepth 100000
namespace Mine
noncomputable def Mark (_ : OpenLaw) (_ : Params → Frag) : Prop := True

/-- every object of the first stands in the second -/
noncomputable abbrev Kept (h h' : Heap) : Prop := ∀ b o, h.get? b = some o → h'.get? b = some o
theorem newsKept {h₀ h h' : Heap} {L : Addr} {news : List (Addr × Obj)} (N : News h₀ L h news) (k : Kept h h') : News h₀ L h' news := fun p hp => ⟨k _ _ (N p hp).1, (N p hp).2⟩
theorem keptHide (h : Heap) (P : Addr) : Kept (h.hide P) h := fun _ _ e => Heap.of_hide e

section
variable {prog : Program} {w : World} {A : Around} {s : Shared} {base g : Heap} {outer : List Env} {Kf : Frag}
  {R : Result → Shared → Prop} {name qual : Str} {params : Arguments} {body : List Stmt} {scope : Scope} {dV kV doc pm cdv ct oc : Value} {an od : Option Addr} {osl : Array (Option Value)} {f : Addr} {args : Args} {binds : List (Str × Value)}
  {p : Program} {loose : List Str} {mean : ExcName → Option Value} {mg mb : Str → Option Value} {news : List (Addr × Obj)}

/-- a call of a def, over a base of its own: all that stood, but for what the ledger hides -/
theorem enter (hg : Kept g s.heap) (hsz : g.objs.size = s.heap.objs.size) (X : Kf.In g) (T : Top p loose mean mg mb g)
    (N : ∀ p ∈ news, s.heap.get? p.1 = some p.2 ∧ g.get? p.1 = none)
    (ho : Kf.lookup f = some ⟨oc, od, .func (fnOf name qual params body scope dV kV doc pm an cdv ct), osl⟩) (hcd : codeIn Kf cdv qual = true) (hroom : A.depth < recursionLimit)
    (hbind : BindsTo s (fnOf name qual params body scope dV kV doc pm an cdv ct) args binds) (hloc : ∀ y ∈ binds, scope.names.lookup y.1 = some .local)
    (h : ∀ L' h₁, Fr g L' h₁ (fun y => binds.reverse.lookup y) → News g L' h₁ news →
      wpAny (model prog w) (A.deeper (envOf qual scope L' f cdv)) (execs body (envOf qual scope L' f cdv))
        (fun fl s' => R (.ok (.ret (match fl with | .ret v => v | _ => .none))) s')
        (fun e s' => wpAny (model prog w) (A.deeper (envOf qual scope L' f cdv)) (leaving (envOf qual scope L' f cdv) e) (fun _ s'' => R (.error e) s'') (fun e' s'' => R (.error e') s'') s')
        { s with heap := h₁, toks := s.toks + binds.length })
    (hco : scope.isCoroutine = false) (hgen : scope.isGenerator = false) (hk : scope.kind = .function)
    (hcell : ∀ x ∈ scope.names, x.2 ≠ .cell) : codeAny (model prog w) A (.call (.ref f) args) R s := by
  refine codeAny_call_def (fd := fnOf name qual params body scope dV kV doc pm an cdv ct) (body := body) (binds := binds) hroom (hg _ _ (X _ _ ho)) rfl (T.nolimit.keeps hg)
    (codeRec_of (X.keeps hg) hcd) rfl hbind hcell hloc (fun h₁ hns hk₁ => ?_) hco hgen hk
  refine h s.heap.objs.size h₁ ⟨hns, fun b o e => hk₁ b o (hg b o e), Nat.le_of_eq hsz⟩ fun p hp => ⟨hk₁ _ _ (N p hp).1, Nat.ne_of_lt (Heap.lt_size (N p hp).1), (N p hp).2⟩
end

/-- what stands around a call of mine -/
noncomputable abbrev Ar (dp un : Nat) (gd : Option (List Code)) (outer : List Env) : Around := { handled := none, depth := dp, frames := some outer, guards := gd, units := un }
/-- the item of the script, or a number of its own -/
noncomputable def lawRaw (ns : List Int) (k : Int) : Int := if k < ns.length then ns.getD k.toNat 0 else 5 * k + 2
noncomputable def lawAt (ns : List Int) (k : Int) : Int := if -1000000000 < lawRaw ns k ∧ lawRaw ns k < 1000000000 then lawRaw ns k else Int.fmod (lawRaw ns k) 1000003
section
variable {s : Shared} {Q : Value → Shared → Prop} {L : Addr} {h' : Heap} {m : Str → Option Value} {t : Tok} {tk' : Nat}
theorem ret_int {x y : Int} (hret : ∀ (t : Tok) (h' : Heap) (tk' : Nat), Kept s.heap h' → Q (.int x t) { s with heap := h', toks := tk' }) (F : Fr s.heap L h' m) (e : y = x) : Q (.int y t) { s with heap := h', toks := tk' } := by
  subst e
  exact hret t h' tk' F.keep
theorem ret_bytes {ks : List Int} {b : Array UInt8} (hret : ∀ (b : Array UInt8) (t : Tok) (h' : Heap) (tk' : Nat), Kept s.heap h' → KBw.bInts b = ks → Q (.bytes b t) { s with heap := h', toks := tk' }) (F : Fr s.heap L h' m) (e : KBw.bInts b = ks) :
    Q (.bytes b t) { s with heap := h', toks := tk' } := hret b t h' tk' F.keep e
end
section
variable {prog : Program} {w : World} {A : Around} {s : Shared} {g : Heap}
  {R : Result → Shared → Prop} {name qual : Str} {params : Arguments} {body : List Stmt} {scope : Scope} {cl : List (Str × Addr)} {dV kV doc pm cdv ct : Value} {an : Option Addr} {fo : Obj} {f : Addr} {args : Args} {binds : List (Str × Value)}
  {p : Program} {loose : List Str} {mean : ExcName → Option Value} {mg mb : Str → Option Value}
/-- a call of a def that closes over names -/
theorem enterC (T : Top p loose mean mg mb s.heap)
    (ho : s.heap.get? f = some fo) (hd : fo.data = .func (fnX name qual params body scope cl dV kV doc pm an cdv ct)) (hcd : s.heap.CodeRec cdv qual) (hroom : A.depth < recursionLimit)
    (hbind : BindsTo s (fnX name qual params body scope cl dV kV doc pm an cdv ct) args binds) (hloc : ∀ y ∈ binds, scope.names.lookup y.1 = some .local)
    (h : ∀ L' h₁, Fr s.heap L' h₁ (fun y => binds.reverse.lookup y) → News s.heap L' h₁ [] →
      wpAny (model prog w) (A.deeper (envX qual scope L' f cdv cl)) (execs body (envX qual scope L' f cdv cl))
        (fun fl s' => R (.ok (.ret (match fl with | .ret v => v | _ => .none))) s')
        (fun e s' => wpAny (model prog w) (A.deeper (envX qual scope L' f cdv cl)) (leaving (envX qual scope L' f cdv cl) e) (fun _ s'' => R (.error e) s'') (fun e' s'' => R (.error e') s'') s')
        { s with heap := h₁, toks := s.toks + binds.length })
    (hco : scope.isCoroutine = false) (hgen : scope.isGenerator = false) (hk : scope.kind = .function)
    (hcell : ∀ x ∈ scope.names, x.2 ≠ .cell) : codeAny (model prog w) A (.call (.ref f) args) R s := by
  refine codeAny_call_def (fd := fnX name qual params body scope cl dV kV doc pm an cdv ct) (body := body) (binds := binds) hroom ho hd T.nolimit
    hcd rfl hbind hcell hloc (fun h₁ hns hk₁ => ?_) hco hgen hk
  exact h s.heap.objs.size h₁ ⟨hns, hk₁, Nat.le_refl _⟩ .nil
end
/-! ### the hash that the law makes -/
noncomputable abbrev parH : Arguments := takeP (x := bod426.getD 0 (.Pass ⟨0, 0, 0, 0⟩)) rfl
noncomputable abbrev bodH : List Stmt := takeB (x := bod426.getD 0 (.Pass ⟨0, 0, 0, 0⟩)) rfl
noncomputable abbrev scoH : Scope := takeS (x := bod426.getD 0 (.Pass ⟨0, 0, 0, 0⟩)) rfl
noncomputable abbrev qualH : Str := Str.ofString "_law_hash" ++ ".<locals>." ++ Str.ofString "hashed"
noncomputable def HashAt (h : Heap) (f : Addr) (size : Int) : Prop :=
  ∃ cc oc t c' ctv doc pm, h.get? f = some (fnMade (Str.ofString "hashed") qualH parH bodH scoH [(Str.ofString "size", cc)] doc pm c' ctv) ∧ h.get? cc = some oc ∧ oc.data = .cell (some (.int size t)) ∧ h.CodeRec (.ref c') qualH
theorem HashAt.kept {h h' : Heap} {f : Addr} {size : Int} (x : HashAt h f size) (k : Kept h h') : HashAt h' f size :=
  let ⟨cc, oc, t, c', ctv, doc, pm, a, b, c, d⟩ := x
  ⟨cc, oc, t, c', ctv, doc, pm, k _ _ a, k _ _ b, c, d.keeps k⟩
theorem HashAt.fn {h : Heap} {f : Addr} {size : Int} (x : HashAt h f size) : FnAt f h :=
  let ⟨_, _, _, _, _, _, _, a, _⟩ := x
  ⟨_, _, _, _, a⟩
section
variable {M : Model} {A : Around} {E : Value → Shared → Prop} {s : Shared} {h₀ : Heap} {L a : Addr} {m : Str → Option Value} {cn : Str} {cs : Scope} {ccd : Value} {cl : List (Str × Addr)} {x : Str} {pos : Pos} {v : Value} {Q : Value → Shared → Prop} {c : Addr} {o : Obj}
/-- a free name whose cell stood before -/
theorem nameFree (F : Fr h₀ L s.heap m) (hc : cl.lookup x = some c) (ho : h₀.get? c = some o) (hd : o.data = .cell (some v)) (h : Q v s)
    (hk : cs.kind = .function := by rfl) (hx : (envX cn cs L a ccd cl).kindOf x = some .free := by rfl) (hb : (x == ("__debug__" : Str)) = false := by decide) (hn : (x == ("__classdict__" : Str)) = false := by decide) :
    wpAny M A (eval (.Name x pos) (envX cn cs L a ccd cl)) Q E s := wpAny_Name (wpAny_loadName_free hk hx hc ⟨o, F.keep _ _ ho, hd⟩ h hn) hb
end
section
noncomputable abbrev newCell : Obj := { cls := .type "cell", data := .cell none }
theorem newEnvC1 {M : Model} {A : Around} {E : Value → Shared → Prop} {s : Shared} {scope : Scope} {globals : Addr} {cl : List (Str × Addr)} {x y : Str} {v : Value} {qual : Str} {func : Option Addr} {code : Value} {builtins : Addr} {Q : Env → Shared → Prop}
    (hk : scope.kind = .function) (hx : scope.names.lookup x = some .local)
    (hcf : ∀ n, cellsFrom n scope.names cl = (y, n) :: cl) (hpc : ∀ h : Heap, pushCells h scope.names = h.push newCell)
    (h : ∀ h', h'.Ns s.heap.objs.size (fun z => if z = x then some v else none) → h'.get? (s.heap.objs.size + 1) = some newCell → Kept s.heap h' →
      Q { scope, locals := s.heap.objs.size, globals, cells := (y, s.heap.objs.size + 1) :: cl, qual, func, code, frame := some s.heap.objs.size, builtins } { s with heap := h', toks := s.toks + 1 }) :
    wpAny M A (newFunctionEnv scope globals cl [(x, v)] qual func code none builtins) Q E s := by
  simp only [newFunctionEnv, Option.isSome_none, Bool.false_eq_true, if_false]
  refine wpAny_bind (wpAny_alloc ?_)
  refine wpAny_bind (wpAny_layCells _ (fun name kind cells => by cases hkc : kind == NameKind.cell <;> simp [hkc]) _ _ _ _ ?_)
  rw [hcf, hpc]
  rw [List.forIn_cons]
  have hsz : (s.heap.push { cls := .type "frame", data := .dict #[] }).objs.size = s.heap.objs.size + 1 := Heap.size_push ..
  rw [show ({ s with heap := s.heap.push { cls := .type "frame", data := .dict #[] } } : Shared).heap.objs.size = s.heap.objs.size + 1 from hsz]
  have hn0 : ((s.heap.push { cls := .type "frame", data := .dict #[] }).push newCell).Ns s.heap.objs.size (fun _ => none) := (Heap.Ns.new s.heap (.type "frame")).keeps fun b o e => Heap.get?_push_of_some _ e
  refine wpAny_bind (wpAny_bind (wpAny_bind ?_))
  refine wpAny_storeName_local (m := fun _ => none) (by simpa [Env.kindOf] using hx) hn0 (fun h' hn hs => ?_) (by rw [hk]; rfl)
  refine wpAny_pure (wpAny_pure (wpAny_pure ?_))
  refine h h' hn ?_ fun b o e => ?_
  · refine (hs.2 _ (Nat.succ_ne_self _)).trans ?_
    have e := Heap.get?_push_size (s.heap.push { cls := .type "frame", data := .dict #[] }) (show newCell.isFreed = false from rfl)
    rw [hsz] at e
    exact e
  · exact hs.extBut b o (Nat.ne_of_lt (Heap.lt_size e)) (Heap.get?_push_of_some _ (Heap.get?_push_of_some _ e))
end
section
variable {prog : Program} {w : World} {A : Around} {s : Shared}
  {R : Result → Shared → Prop} {name qual : Str} {params : Arguments} {body : List Stmt} {scope : Scope} {cl : List (Str × Addr)} {dV kV doc pm cdv ct : Value} {an : Option Addr} {fo : Obj} {f : Addr} {args : Args} {x y : Str} {v : Value}
  {p : Program} {loose : List Str} {mean : ExcName → Option Value} {mg mb : Str → Option Value}
/-- a call of a def that closes over names and has one name that a comprehension of its own reads -/
theorem enterC1 (T : Top p loose mean mg mb s.heap)
    (ho : s.heap.get? f = some fo) (hd : fo.data = .func (fnX name qual params body scope cl dV kV doc pm an cdv ct)) (hcd : s.heap.CodeRec cdv qual) (hroom : A.depth < recursionLimit)
    (hbind : BindsTo s (fnX name qual params body scope cl dV kV doc pm an cdv ct) args [(x, v)]) (hx : scope.names.lookup x = some .local)
    (hcf : ∀ n, cellsFrom n scope.names cl = (y, n) :: cl) (hpc : ∀ h : Heap, pushCells h scope.names = h.push newCell)
    (h : ∀ L' c h₁ o, o.data = .cell none → Fr s.heap L' h₁ (fun z => if z = x then some v else none) → News s.heap L' h₁ [(c, o)] →
      wpAny (model prog w) (A.deeper (envX qual scope L' f cdv ((y, c) :: cl))) (execs body (envX qual scope L' f cdv ((y, c) :: cl)))
        (fun fl s' => R (.ok (.ret (match fl with | .ret v => v | _ => .none))) s')
        (fun e s' => wpAny (model prog w) (A.deeper (envX qual scope L' f cdv ((y, c) :: cl))) (leaving (envX qual scope L' f cdv ((y, c) :: cl)) e) (fun _ s'' => R (.error e) s'') (fun e' s'' => R (.error e') s'') s')
        { s with heap := h₁, toks := s.toks + 1 })
    (hco : scope.isCoroutine = false) (hgen : scope.isGenerator = false) (hk : scope.kind = .function) : codeAny (model prog w) A (.call (.ref f) args) R s := by
  refine codeAny_call_function (fd := fnX name qual params body scope cl dV kV doc pm an cdv ct) hroom ho hd hco hgen rfl hcd (hbind _ _ _ _ ?_)
  refine newEnvC1 hk hx hcf hpc fun h' hn hc hk' => ⟨T.nolimit.keeps hk', codeAny_func ?_⟩
  refine h s.heap.objs.size (s.heap.objs.size + 1) h' newCell rfl ⟨hn, hk', Nat.le_refl _⟩ fun p hp => ?_
  rcases List.mem_singleton.mp hp with rfl
  refine ⟨hc, Nat.succ_ne_self _, ?_⟩
  cases q : s.heap.get? (s.heap.objs.size + 1) with
  | none => rfl
  | some o => exact absurd (Heap.lt_size q) (Nat.not_lt.mpr (Nat.le_succ _))
end
section
variable {prog : Program} {w : World} {A : Around} {E : Value → Shared → Prop} {s : Shared}
theorem bInts_repl (l : List UInt8) (n : Nat) : KBw.bInts ((List.replicate n l).flatten).toArray = (List.replicate n (KBw.bInts l.toArray)).flatten := by
  simp only [KBw.bInts, List.map_flatten, List.map_replicate]
theorem mulB {b : Array UInt8} {ks : List Int} {n : Int} {t u : Tok} {Q : Value → Shared → Prop} (hk : KBw.bInts b = ks) (hne : ks ≠ []) (h16 : ks.length ≤ 16) (h0 : 0 ≤ n) (hn : n ≤ 1048576)
    (h : ∀ b' t' k, KBw.bInts b' = (List.replicate n.toNat ks).flatten → Q (.bytes b' t') { s with toks := k }) : wpAny (model prog w) A (binaryOp .Mult (.bytes b t) (.int n u)) Q E s := by
  obtain ⟨l⟩ := b
  subst hk
  refine bytes_mul_any (b := l) (fun e => hne (by subst e; rfl)) (by omega) hn (by simpa [KBw.bInts] using h16) fun t' k => h _ t' k (bInts_repl l _)
end
/-! ### the hash as a function of ints -/
noncomputable def hStep (n tot part : Int) : Int := Int.fmod (tot * 257 + part + n) 1000003
noncomputable def hTot (ks : List Int) : Int :=
  hStep ks.length (hStep ks.length (hStep ks.length (hStep ks.length (hStep ks.length (hStep ks.length 5381 ks.sum) (ks.take (clipAt ks.length (Int.fdiv ks.length 2))).sum) (ks.take (clipAt ks.length (Int.fdiv ks.length 3))).sum)
    (ks.take (clipAt ks.length (Int.fdiv ks.length 5))).sum) ((ks.drop (clipAt ks.length ((ks.length : Int) - 3))).take (ks.length - clipAt ks.length ((ks.length : Int) - 3))).sum) ((ks.drop (clipAt ks.length ((ks.length : Int) - 1))).take (ks.length - clipAt ks.length ((ks.length : Int) - 1))).sum
noncomputable def hOct (tot : Int) : List Int := (rangeKs 0 8).map fun k => Int.fmod (Int.fdiv tot (k + 1)) 256
noncomputable def hashL (size : Int) (ks : List Int) : List Int := ((List.replicate 9 (hOct (hTot ks))).flatten).take (clipAt 72 size)
theorem hOct_length (tot : Int) : (hOct tot).length = 8 := by simp [hOct, rangeKs]
theorem code425 {P : Params} {h : Heap} (X : (K P).In h) : CodeHd h 425 421 :=
  ⟨_, _, _, _, _, _, _, _, _, X 425 _ rfl, rfl, rfl, rfl, rfl, rfl, rfl, rfl, rfl, by decide⟩
theorem code55 {P : Params} {h : Heap} (X : (K P).In h) : CodeHd h 55 51 :=
  ⟨_, _, _, _, _, _, _, _, _, X 55 _ rfl, rfl, rfl, rfl, rfl, rfl, rfl, rfl, rfl, by decide⟩
theorem code264 {P : Params} {h : Heap} (X : (K P).In h) : CodeHd h 264 262 :=
  ⟨_, _, _, _, _, _, _, _, _, X 264 _ rfl, rfl, rfl, rfl, rfl, rfl, rfl, rfl, rfl, by decide⟩
section
variable {prog : Program} {w : World} {A : Around} {s : Shared} {g : Heap} {Kf : Frag}
  {R : Result → Shared → Prop} {name qual : Str} {params : Arguments} {body : List Stmt} {scope : Scope} {dV kV doc pm cdv ct oc : Value} {an od : Option Addr} {osl : Array (Option Value)} {f : Addr} {args : Args} {x : Str} {v : Value}
  {p : Program} {loose : List Str} {mean : ExcName → Option Value} {mg mb : Str → Option Value} {news : List (Addr × Obj)}
/-- a call of a def of one argument that a def within reads -/
theorem enterCell (hg : Kept g s.heap) (hsz : g.objs.size = s.heap.objs.size) (X : Kf.In g) (T : Top p loose mean mg mb g)
    (N : ∀ p ∈ news, s.heap.get? p.1 = some p.2 ∧ g.get? p.1 = none)
    (ho : Kf.lookup f = some ⟨oc, od, .func (fnOf name qual params body scope dV kV doc pm an cdv ct), osl⟩) (hcd : codeIn Kf cdv qual = true) (hroom : A.depth < recursionLimit)
    (hbind : BindsTo s (fnOf name qual params body scope dV kV doc pm an cdv ct) args [(x, v)])
    (hkx : scope.names.lookup x = some .cell) (hcf : ∀ n, cellsFrom n scope.names [] = [(x, n)])
    (h : ∀ L' c h₁ o tk, o.data = .cell (some v) → Fr g L' h₁ (fun _ => none) → News g L' h₁ ((c, o) :: news) → L' < c → (∀ p ∈ news, p.1 < L') →
      wpAny (model prog w) (A.deeper (envX qual scope L' f cdv [(x, c)])) (execs body (envX qual scope L' f cdv [(x, c)]))
        (fun fl s' => R (.ok (.ret (match fl with | .ret v => v | _ => .none))) s')
        (fun e s' => wpAny (model prog w) (A.deeper (envX qual scope L' f cdv [(x, c)])) (leaving (envX qual scope L' f cdv [(x, c)]) e) (fun _ s'' => R (.error e) s'') (fun e' s'' => R (.error e') s'') s')
        { s with heap := h₁, toks := tk })
    (hco : scope.isCoroutine = false) (hgen : scope.isGenerator = false) (hk : scope.kind = .function) : codeAny (model prog w) A (.call (.ref f) args) R s := by
  refine codeAny_call_function (fd := fnOf name qual params body scope dV kV doc pm an cdv ct) hroom (hg _ _ (X _ _ ho)) rfl hco hgen rfl (codeRec_of (X.keeps hg) hcd) (hbind _ _ _ _ ?_)
  refine wpAny_newFunctionEnv_cells hk (fun y hy => ?_) fun env' he s' y => ?_
  · rcases List.mem_singleton.mp hy with rfl
    exact .inr ⟨hkx, by rw [hcf]; simp⟩
  · subst he
    refine ⟨(T.nolimit.keeps hg).keeps y.toInCall.keep, codeAny_func ?_⟩
    obtain ⟨h₁, tk, rfl, _⟩ := y.done
    have hk₁ := y.toInCall.keep
    have hcells : (newEnv scope s.heap.objs.size mainGlobals (cellsFrom (s.heap.objs.size + 1) scope.names []) (qual ++ ".<locals>.") (some f) cdv none builtinsNs).cells = [(x, s.heap.objs.size + 1)] := hcf _
    have hkind : (newEnv scope s.heap.objs.size mainGlobals (cellsFrom (s.heap.objs.size + 1) scope.names []) (qual ++ ".<locals>.") (some f) cdv none builtinsNs).kindOf x = some .cell := hkx
    have hc0 := y.cell x (s.heap.objs.size + 1) (by rw [hcells]; simp)
    have hnl : ¬ (newEnv scope s.heap.objs.size mainGlobals (cellsFrom (s.heap.objs.size + 1) scope.names []) (qual ++ ".<locals>.") (some f) cdv none builtinsNs).kindOf x = some .local := by rw [hkind]; decide
    have hns := y.toInCall.ns
    simp only [bindL, bindC, if_neg hnl] at hc0 hns
    obtain ⟨o, ho', hd'⟩ := hc0
    have e : envX qual scope s.heap.objs.size f cdv [(x, s.heap.objs.size + 1)] = newEnv scope s.heap.objs.size mainGlobals (cellsFrom (s.heap.objs.size + 1) scope.names []) (qual ++ ".<locals>.") (some f) cdv none builtinsNs := by
      rw [hcf]; rfl
    refine e ▸ h s.heap.objs.size (s.heap.objs.size + 1) h₁ o tk (by rw [hd']; simp) ⟨hns, fun b o e => hk₁ b o (hg b o e), Nat.le_of_eq hsz⟩ (fun q hq => ?_) (Nat.lt_succ_self _) (fun q hq => Heap.lt_size (N q hq).1)
    rcases List.mem_cons.mp hq with rfl | hq
    · refine ⟨ho', Nat.succ_ne_self _, ?_⟩
      cases z : g.get? (s.heap.objs.size + 1) with
      | none => rfl
      | some o => exact absurd (Heap.lt_size z) (by rw [hsz]; exact Nat.not_lt.mpr (Nat.le_succ _))
    · exact ⟨hk₁ _ _ (N q hq).1, Nat.ne_of_lt (Heap.lt_size (N q hq).1), (N q hq).2⟩
end
end Mine
end
section
open PySem PySem.W PyProof.Rows PySem.Calls
set_option Elab.async false
set_option maxRecDepth 100000
namespace Mine
noncomputable abbrev takeF {x : Stmt} {t i : Expr} {b o : List Stmt} {p : Pos} (_ : x = .For t i b o p) : List Stmt := b
noncomputable abbrev takeT {x : Stmt} {t i : Expr} {b o : List Stmt} {p : Pos} (_ : x = .For t i b o p) : Expr := t
noncomputable abbrev rangeIt (x left : Int) : Obj := { cls := .type "range_iterator", dict := none, data := .fields #[rawInt x, rawInt left, rawInt 1], slots := #[] }
noncomputable def Halt (P : Prop) : Prop := P
theorem halt {P : Prop} (h : Halt P) : P := h
theorem newsNil {h₀ h : Heap} {L : Addr} {m : Str → Option Value} (_ : Fr h₀ L h m) : News h₀ L h [] := .nil
theorem keptHide2 {g h : Heap} {P : Addr} (k : Kept g h) (hP : g.get? P = none) : Kept g (h.hide P) := fun b o e =>
  (Heap.hide_ne h fun q => by rw [q, hP] at e; cases e).trans (k b o e)
theorem frExt {h₀ h h' : Heap} {L P : Addr} {m : Str → Option Value} (F : Fr h₀ L h m) (hP : h₀.get? P = none) (hL : L ≠ P) (k : Heap.ExtBut P h h') : Fr h₀ L h' m := by
  obtain ⟨oL, a1, a2, hL', a3⟩ := F.ns
  exact ⟨⟨oL, a1, a2, k _ _ hL hL', a3⟩, fun b o e => k b o (fun q => by rw [q, hP] at e; cases e) (F.keep b o e), F.above⟩
theorem noneOf {h : Heap} {a : Addr} (x : h.objs.size ≤ a) : h.get? a = none := by
  cases e : h.get? a with
  | none => rfl
  | some o => exact absurd (Heap.lt_size e) (Nat.not_lt.mpr x)
theorem newsCons {g h : Heap} {L a : Addr} {o : Obj} {news : List (Addr × Obj)} (e : h.get? a = some o) (hL : L < a) (x : g.objs.size ≤ a) (N : News g L h news) : News g L h ((a, o) :: news) := fun p hp => by
  rcases List.mem_cons.mp hp with rfl | hp
  · exact ⟨e, Nat.ne_of_gt hL, noneOf x⟩
  · exact N p hp
theorem newsCons' {g h : Heap} {L a : Addr} {o : Obj} {news : List (Addr × Obj)} (e : h.get? a = some o) (hL : a ≠ L) (x : g.get? a = none) (N : News g L h news) : News g L h ((a, o) :: news) := fun p hp => by
  rcases List.mem_cons.mp hp with rfl | hp
  · exact ⟨e, hL, x⟩
  · exact N p hp
theorem frExt2 {h₀ h h' : Heap} {L : Addr} {m : Str → Option Value} (F : Fr h₀ L h m) (k : Kept h h') : Fr h₀ L h' m := by
  obtain ⟨oL, a1, a2, hL', a3⟩ := F.ns
  exact ⟨⟨oL, a1, a2, k _ _ hL', a3⟩, fun b o e => k b o (F.keep b o e), F.above⟩
theorem frKept {h₀ h h' : Heap} {L : Addr} {m : Str → Option Value} (F : Fr h₀ L h m) (k : Kept h h') : Fr h₀ L h' m := frExt2 F k
theorem newsTop {g h h' : Heap} {L : Addr} {m : Str → Option Value} {o : Obj} {news : List (Addr × Obj)} (F : Fr g L h m) (N : News g L h news) (k : Kept h h') (e : h'.get? h.objs.size = some o) : News g L h' ((h.objs.size, o) :: news) :=
  newsCons e F.ns.lt (Nat.le_trans F.above (Nat.le_of_lt F.ns.lt)) (newsKept N k)
theorem pushGo {h : Heap} {P : Heap → Prop} {o : Obj} (go : ∀ h', Kept h h' → h'.get? h.objs.size = some o → h'.objs.size = h.objs.size + 1 → P h') (hf : o.isFreed = false) : P (h.push o) := go _ (fun _ _ e => Heap.get?_push_of_some _ e) (Heap.get?_push_size _ hf) (Heap.size_push _ _)
theorem wpAny_push {α : Type} {M : Model} {A : Around} {E : Value → Shared → Prop} {s : Shared} {h : Heap} {t : Sem α} {tk : Nat} {o : Obj} {Q : α → Shared → Prop} (hf : o.isFreed = false)
    (go : ∀ h', Kept h h' → h'.get? h.objs.size = some o → h'.objs.size = h.objs.size + 1 → wpAny M A t Q E { s with heap := h', toks := tk }) : wpAny M A t Q E { s with heap := h.push o, toks := tk } :=
  pushGo (P := fun h' => wpAny M A t Q E { s with heap := h', toks := tk }) go hf
theorem hashL_len (k : Nat) (ks : List Int) (hk : k ≤ 72 := by decide) : (hashL (k : Int) ks).length = k := by
  simp [hashL, hOct_length, clipAt_nat]
  omega
theorem frEq {h₀ h : Heap} {L : Addr} {m m' : Str → Option Value} (F : Fr h₀ L h m) (e : m = m') : Fr h₀ L h m' := e ▸ F
theorem newsBut {g h h' : Heap} {L a : Addr} {o o' : Obj} {news : List (Addr × Obj)} (N : News g L h ((a, o) :: news)) (he : h'.get? a = some o') (k : ∀ b o, b ≠ a → h.get? b = some o → h'.get? b = some o) (hn : ∀ p ∈ news, p.1 ≠ a) : News g L h' ((a, o') :: news) := by
  intro p hp
  rcases List.mem_cons.mp hp with rfl | hp'
  · exact ⟨he, (N (a, o) (List.mem_cons_self ..)).2⟩
  · exact ⟨k _ _ (hn p hp') (N p (List.mem_cons_of_mem _ hp')).1, (N p (List.mem_cons_of_mem _ hp')).2⟩
theorem news_ne {g h : Heap} {L a b : Addr} {o o' : Obj} {news : List (Addr × Obj)} (N : News g L h news) (ha : (a, o) ∈ news) (hb : (b, o') ∈ news) (hne : o.cls ≠ o'.cls) : a ≠ b := by
  intro e
  have q1 := (N _ ha).1
  have q2 := (N _ hb).1
  dsimp only at q1 q2
  rw [e, q2] at q1
  cases q1
  exact hne rfl
theorem lookup_if {y k : Str} {v : Value} {l : List (Str × Value)} : List.lookup y ((k, v) :: l) = if y = k then some v else List.lookup y l := by
  by_cases e : y = k
  · subst e; simp [List.lookup]
  · simp only [List.lookup, beq_false_of_ne e, if_neg e]
theorem keptPush {h h' : Heap} {o : Obj} (k : Kept h h') : Kept h (h'.push o) := fun _ _ e => Heap.get?_push_of_some _ (k _ _ e)
theorem take_clip {l : List Int} {n : Int} (h : 0 ≤ n) : l.take (clipAt l.length n) = l.take n.toNat := by
  obtain ⟨k, rfl⟩ := Int.eq_ofNat_of_zero_le h
  rw [clipAt_nat]
  simp
theorem keptWhole {h h' : Heap} {P : Addr} {o : Obj} (k : Kept (h.hide P) h') (e : h'.get? P = some o) (e0 : h.get? P = some o) : Kept h h' := fun b ob eb => by
  by_cases q : b = P
  · subst q; rw [e0] at eb; cases eb; exact e
  · exact k _ _ ((Heap.hide_ne _ q).trans eb)
theorem oneOct {n : Int} (h0 : 0 ≤ n) (h1 : n < 256) : List.map (fun c : UInt8 => ((c.toNat : Nat) : Int)) [n.toNat.toUInt8] = [n] :=
  KBa.ints_make (ns := [n]) fun k hk => by rcases List.mem_singleton.mp hk with rfl; exact ⟨h0, h1⟩
theorem hashL_le {d : Int} {ks : List Int} : (hashL d ks).length ≤ 72 := by
  refine Nat.le_trans (List.length_take_le' _ _) ?_
  simp [hOct_length]
end Mine
end
section
open PySem PySem.W PyProof.Rows PySem.Calls PySem.Spec
open PySem.Sem (wp)
set_option Elab.async false
set_option maxRecDepth 100000
namespace Mine
/-! ### the logic over stacks on which no decoder stands -/
noncomputable def okCode : Code → Bool
  | .builtin id _ => !Builtin.Bytes.decodersThatHold.contains id
  | _ => true
noncomputable def NoDec (Γ : PySem.Ctx) : Prop := okCode Γ.code = true ∧ ∀ x ∈ Γ.below, okCode x.1 = true
theorem NoDec.enter {Γ : PySem.Ctx} (h : NoDec Γ) {c : Code} (hc : okCode c = true) (hd : Option Value) (p : Pos) : NoDec (Γ.enter c hd p) := by
  refine ⟨hc, fun x hx => ?_⟩
  rcases List.mem_cons.mp hx with rfl | hx
  · exact h.1
  · exact h.2 x hx
theorem NoDec.goto {Γ : PySem.Ctx} (h : NoDec Γ) {c : Code} (hc : okCode c = true) : NoDec (Γ.goto c) := ⟨hc, h.2⟩
noncomputable def wpC {α : Type} (M : Model) (A : Around) (t : Sem α) (Q : α → Shared → Prop) (E : Value → Shared → Prop) (s : Shared) : Prop :=
  ∀ Γ p, Γ.In A → NoDec Γ → wp M Γ t (fun a _ s' => Q a s') (fun e _ s' => E e s') p s
noncomputable def codeC (M : Model) (A : Around) (c : Code) (R : Result → Shared → Prop) (s : Shared) : Prop :=
  ∀ Γ p, Γ.code = c → Γ.Below A → NoDec Γ → wpCode M Γ R p s
section
variable {α β : Type} {M : Model} {A : Around} {E : Value → Shared → Prop} {s : Shared} {env : Env}
theorem wpC_of {t : Sem α} {Q : α → Shared → Prop} (h : wpAny M A t Q E s) : wpC M A t Q E s := fun Γ p hΓ _ => h Γ p hΓ
theorem codeC_of {c : Code} {R : Result → Shared → Prop} (h : codeAny M A c R s) : codeC M A c R s := fun Γ p hc hΓ _ => h Γ p hc hΓ
theorem wpC_pure {a : α} {Q : α → Shared → Prop} (h : Q a s) : wpC M A (pure a) Q E s := fun _ _ _ _ => h
theorem wpC_mono {t : Sem α} {Q Q' : α → Shared → Prop} {E' : Value → Shared → Prop} (h : wpC M A t Q E s) (hQ : ∀ a s, Q a s → Q' a s) (hE : ∀ e s, E e s → E' e s) : wpC M A t Q' E' s :=
  fun Γ p hΓ hC => Sem.wp_mono M Γ t (fun a _ s => hQ a s) (fun e _ s => hE e s) p s (h Γ p hΓ hC)
theorem wpC_bind {m : Sem α} {f : α → Sem β} {Q : β → Shared → Prop} (h : wpC M A m (fun a s' => wpC M A (f a) Q E s') E s) : wpC M A (m >>= f) Q E s := fun Γ p hΓ hC => by
  rw [Sem.wp_bind']
  exact Sem.wp_mono M Γ m (fun a p' s' h' => h' Γ p' hΓ hC) (fun _ _ _ h' => h') p s (h Γ p hΓ hC)
theorem wpC_bindA {m : Sem α} {f : α → Sem β} {Q : β → Shared → Prop} (h : wpAny M A m (fun a s' => wpC M A (f a) Q E s') E s) : wpC M A (m >>= f) Q E s := wpC_bind (wpC_of h)
theorem wpC_holding {vs : List Value} {m : Sem α} {Q : α → Shared → Prop} (h : wpC M A m Q E s) : wpC M A (holding vs m) Q E s := fun Γ p hΓ hC => by rw [Sem.wp_holding]; exact h Γ p hΓ hC
theorem wpC_onRaise {m : Sem α} {k : Value → Sem Unit} {Q : α → Shared → Prop} (h : wpC M A m Q (fun e s' => wpAny M A (k e) (fun _ s'' => E e s'') E s') s) : wpC M A (m.onRaise k) Q E s := fun Γ p hΓ hC => by
  rw [Sem.wp_onRaise]
  exact Sem.wp_mono M Γ m (fun _ _ _ h' => h') (fun e p' s' h' => h' Γ p' hΓ) p s (h Γ p hΓ hC)
theorem wpC_standAt {pos : Pos} {Q : Unit → Shared → Prop} (h : Q () s) : wpC M A (standAt pos) Q E s := wpC_of (wpAny_standAt h)
theorem wpC_runValue {c : Code} {Q : Value → Shared → Prop} (hk : okCode c = true)
    (hc : codeC M A c (fun r s' => match r with | .ok (.ret v) => Q v s' | .ok _ => False | .error e => E e s') s) : wpC M A (runValue c) Q E s :=
  fun Γ p hΓ hC => by rw [Sem.wp_runValue]; exact hc _ p rfl (hΓ.enter c none p (by intro x; cases x)) (hC.enter hk _ _)
theorem wpC_run {c : Code} {h : Option Value} {Q : Flow → Shared → Prop} (hk : okCode c = true)
    (hc : codeC M (A.mark h) c (fun r s' => match r with | .ok f => Q f s' | .error e => E e s') s) (hnb : h ≠ some byPass := by intro x; cases x) : wpC M A (run c h) Q E s :=
  fun Γ p hΓ hC => by rw [Sem.wp_run]; exact hc _ p rfl (hΓ.enter c h p hnb) (hC.enter hk _ _)
theorem wpC_call {f : Value} {pos : List Value} {kw : List (Str × Value)} {Q : Value → Shared → Prop}
    (hc : codeC M A (.call f ⟨pos, kw⟩) (fun r s' => match r with | .ok (.ret v) => Q v s' | .ok _ => False | .error e => E e s') s) : wpC M A (call f pos kw) Q E s := wpC_runValue rfl hc
theorem codeC_of_tree {c : Code} {R : Result → Shared → Prop}
    (h : wpC M (A.under c) (M.den c) (fun fin s' => match fin with | .done f => R (.ok f) s' | .again c' => c'.quiet = true ∧ okCode c' = true ∧ codeC M A c' R s')
      (fun e s' => R (.error e) s') s) : codeC M A c R s := fun Γ p hc hΓ hC => by
  rw [wpCode_iff_wp, hc]
  refine Sem.wp_mono M Γ _ (fun fin p' s' h' => ?_) (fun _ _ _ h' => h') p s (h Γ p (hc ▸ hΓ.in) hC)
  cases fin with
  | done f => exact h'
  | again c' => exact ⟨h'.1, h'.2.2 (Γ.goto c') p' rfl (hΓ.goto c') (hC.goto h'.2.1)⟩
theorem wpC_execs_cons {st rest} {Q : Flow → Shared → Prop} (h : wpC M A (exec st env) (fun f s' => match f with | .next => wpC M A (execs rest env) Q E s' | f => Q f s') E s) :
    wpC M A (execs (st :: rest) env) Q E s := fun Γ p hΓ hC => by
  rw [execs_cons, Sem.wp_bind']
  refine Sem.wp_mono M Γ _ (fun f p' s' h' => ?_) (fun _ _ _ h' => h') _ _ (h Γ p hΓ hC)
  cases f <;> first | exact h' Γ p' hΓ hC | exact h'
theorem wpC_execs_nil {Q : Flow → Shared → Prop} (h : Q .next s) : wpC M A (execs [] env) Q E s := fun _ _ _ _ => h
/-- a statement that the walk steps through, and the rest -/
theorem wpC_step {st rest} {Q : Flow → Shared → Prop} (h : wpAny M A (exec st env) (fun f s' => f = .next ∧ wpC M A (execs rest env) Q E s') E s) : wpC M A (execs (st :: rest) env) Q E s :=
  wpC_execs_cons (wpC_of (wpAny_mono h (fun _ _ ⟨e, x⟩ => by subst e; exact x) fun _ _ x => x))
theorem wpC_Return {e : Expr} {pos : Pos} {Q : Flow → Shared → Prop} (h : wpC M A (eval e env) (fun v => Q (.ret v)) E s) : wpC M A (exec (.Return (some e) pos) env) Q E s := fun Γ p hΓ hC => by
  simp only [exec_Return_some, Sem.wp_bind', Sem.wp_cmd_standAt, Sem.wp_pure']; exact h Γ _ hΓ hC
theorem wpC_If {test : Expr} {body orelse : List Stmt} {pos : Pos} {Q : Flow → Shared → Prop}
    (h : wpC M A (isTrue test env (eval test env)) (fun b s₂ => if b then wpC M A (execs body env) Q E s₂ else wpC M A (execs orelse env) Q E s₂) E s) : wpC M A (exec (.If test body orelse pos) env) Q E s := fun Γ p hΓ hC => by
  simp only [exec_If, Sem.wp_bind', Sem.wp_cmd_standAt]
  refine Sem.wp_mono M Γ _ (fun b p₂ s₂ h₂ => ?_) (fun _ _ _ h' => h') _ _ (h Γ _ hΓ hC)
  cases b <;> exact h₂ Γ p₂ hΓ hC
theorem wpC_Assign_Name {x : Str} {pos' pos : Pos} {value : Expr} {Q : Flow → Shared → Prop}
    (h : wpC M A (eval value env) (fun v s₁ => wpAny M A (storeName env x v) (fun _ => Q .next) E s₁) E s)
    (hs : swapsWith value (some (.Name x pos')) pos.line env = pure false := by rfl) : wpC M A (exec (.Assign [.Name x pos'] value pos) env) Q E s := fun Γ p hΓ hC => by
  simp only [exec_Assign_Name env x pos' value pos hs, Sem.wp_bind', Sem.wp_cmd_standAt, Sem.wp_bindName, Sem.wp_pure']
  exact Sem.wp_mono M Γ _ (fun v _ s₁ h₁ => h₁ Γ _ hΓ) (fun _ _ _ h' => h') _ _ (h Γ _ hΓ hC)
theorem wpC_exported {v : Value} {Q : Bool → Shared → Prop} (hg : A.guards = some []) (h : Q false s) : wpC M A (Builtin.Bytes.exported v) Q E s := fun Γ p hΓ hC => by
  have all : ∀ x ∈ ((Γ.code, p) :: Γ.below), okCode x.1 = true ∧ x.1.isGuard = false := by
    have hgs : guardsOf ((Γ.code, p) :: Γ.below) = [] := by rw [guardsOf_cons]; exact hΓ.2.2.2.1 _ hg
    intro x hx
    refine ⟨?_, ?_⟩
    · rcases List.mem_cons.mp hx with rfl | hx'
      · exact hC.1
      · exact hC.2 x hx'
    · cases e : x.1.isGuard with
      | false => rfl
      | true =>
        have : x.1 ∈ guardsOf ((Γ.code, p) :: Γ.below) := List.mem_filter.mpr ⟨List.mem_map.mpr ⟨x, hx, rfl⟩, e⟩
        rw [hgs] at this; cases this
  have any0 : ∀ f : Code × Pos → Bool, (∀ x, okCode x.1 = true → x.1.isGuard = false → f x = false) → ((Γ.code, p) :: Γ.below).any f = false := fun f hf => List.any_eq_false.mpr fun x hx => by
    rw [hf x (all x hx).1 (all x hx).2]; exact Bool.false_ne_true
  show Q (((Γ.code, p) :: Γ.below).any _) s
  rw [any0 _ (by
    rintro ⟨c, p'⟩ hk hgd
    cases c <;> try rfl
    rename_i id a
    obtain ⟨ps, kw⟩ := a
    have d : Builtin.Bytes.decodersThatHold.contains id = false := by simpa only [okCode, Bool.not_eq_true'] using hk
    have gd : ∀ s : String, (Code.builtin s ⟨ps, kw⟩).isGuard = true → id ≠ s := fun s hs q => by
      subst q
      exact Bool.false_ne_true (hgd.symm.trans hs)
    have g1 := gd "bytearray.__contains__" (by kernel_rfl)
    have g2 := gd "bytearray.__mod__" (by kernel_rfl)
    have g3 := gd "bytearray.__rmod__" (by kernel_rfl)
    have g4 := gd "_struct.pack_into.held" (by kernel_rfl)
    have g5 := gd "bytearray.find.held" (by kernel_rfl)
    delta Builtin.Bytes.exported.match_1
    dsimp only
    refine (dif_neg g1).trans ?_
    refine (dif_neg g2).trans ?_
    refine (dif_neg g3).trans ?_
    refine (dif_neg g4).trans ?_
    refine (dif_neg g5).trans ?_
    cases ps with
    | nil => rfl
    | cons v r =>
      show (Builtin.Bytes.sameRef v _ && Builtin.Bytes.decodersThatHold.contains id) = false
      rw [d, Bool.and_false])]
  exact h
end
section
variable {prog : Program} {w : World} {A : Around} {E : Value → Shared → Prop} {s : Shared} {R : Result → Shared → Prop}
theorem codeC_func {body : List Stmt} {env : Env}
    (h : wpC (model prog w) (A.deeper env) (execs body env) (fun f s' => R (.ok (.ret (match f with | .ret v => v | _ => .none))) s')
      (fun e s' => wpAny (model prog w) (A.deeper env) (leaving env e) (fun _ s'' => R (.error e) s'') (fun e' s'' => R (.error e') s'') s') s) :
    codeC (model prog w) A (.func body env) R s := by
  refine codeC_of_tree ?_
  show wpC _ (A.deeper env) (do point; match ← (execs body env).onRaise (leaving env) with | .ret v => ret v | _ => ret .none) _ _ s
  refine wpC_bindA (wpAny_point (wpC_bind (wpC_onRaise (wpC_mono h (fun f s' h' => ?_) fun _ _ h' => h'))))
  cases f <;> exact wpC_pure h'
end
end Mine
end
section
open PySem PySem.W PyProof.Rows PySem.Calls PySem.Spec
open PySem.Sem (wp)
set_option Elab.async false
set_option maxRecDepth 100000
namespace Mine
section
variable {prog : Program} {w : World} {A : Around} {s : Shared} {base g : Heap} {outer : List Env} {Kf : Frag}
  {R : Result → Shared → Prop} {name qual : Str} {params : Arguments} {body : List Stmt} {scope : Scope} {dV kV doc pm cdv ct oc : Value} {an od : Option Addr} {osl : Array (Option Value)} {f : Addr} {args : Args} {binds : List (Str × Value)}
  {p : Program} {loose : List Str} {mean : ExcName → Option Value} {mg mb : Str → Option Value} {news : List (Addr × Obj)}
/-- a call of a def, where no decoder stands -/
theorem enterD (hg : Kept g s.heap) (hsz : g.objs.size = s.heap.objs.size) (X : Kf.In g) (T : Top p loose mean mg mb g)
    (N : ∀ p ∈ news, s.heap.get? p.1 = some p.2 ∧ g.get? p.1 = none)
    (ho : Kf.lookup f = some ⟨oc, od, .func (fnOf name qual params body scope dV kV doc pm an cdv ct), osl⟩) (hcd : codeIn Kf cdv qual = true) (hroom : A.depth < recursionLimit)
    (hbind : BindsTo s (fnOf name qual params body scope dV kV doc pm an cdv ct) args binds) (hloc : ∀ y ∈ binds, scope.names.lookup y.1 = some .local)
    (h : ∀ L' h₁ tk, Fr g L' h₁ (fun y => binds.reverse.lookup y) → News g L' h₁ news →
      wpC (model prog w) (A.deeper (envOf qual scope L' f cdv)) (execs body (envOf qual scope L' f cdv))
        (fun fl s' => R (.ok (.ret (match fl with | .ret v => v | _ => .none))) s')
        (fun e s' => wpAny (model prog w) (A.deeper (envOf qual scope L' f cdv)) (leaving (envOf qual scope L' f cdv) e) (fun _ s'' => R (.error e) s'') (fun e' s'' => R (.error e') s'') s')
        { s with heap := h₁, toks := tk })
    (hco : scope.isCoroutine = false) (hgen : scope.isGenerator = false) (hk : scope.kind = .function)
    (hcell : ∀ x ∈ scope.names, x.2 ≠ .cell) : codeC (model prog w) A (.call (.ref f) args) R s := by
  have hfo := hg _ _ (X _ _ ho)
  have hcr := codeRec_of (X.keeps hg) hcd
  have hlim := T.nolimit.keeps hg
  refine codeC_of_tree ?_
  show wpC _ A.in1 (callAny (.ref f) args) _ _ s
  simp only [callAny]
  refine wpC_bindA (wpAny_load hfo ?_)
  obtain ⟨c, oc', vs, tq, hc, hoc, hdc, hq⟩ := hcr
  subst hc
  simp only [callFunction, hco, hgen]
  refine wpC_bindA (m := field (.ref c) 1) (wpAny_field hoc hdc hq ?_)
  refine wpC_bind (wpC_pure ?_)
  refine wpC_bindA (hbind _ _ _ _ ?_)
  refine wpC_bindA (wpAny_newFunctionEnv hcell hloc (fun h₀ hns₀ hsb₀ => ?_) hk)
  refine wpC_bindA (wpAny_enterFrame (hlim.fresh _ hsb₀) hroom (wpC_pure ?_))
  have hk₁ : Kept s.heap h₀ := fun b o e => hsb₀.extBut b o (Nat.ne_of_lt (Heap.lt_size e)) (Heap.get?_push_of_some _ e)
  exact ⟨rfl, rfl, codeC_func (h s.heap.objs.size h₀ _ ⟨hns₀, fun b o e => hk₁ b o (hg b o e), Nat.le_of_eq hsz⟩ fun p hp => ⟨hk₁ _ _ (N p hp).1, Nat.ne_of_lt (Heap.lt_size (N p hp).1), (N p hp).2⟩)⟩
end
end Mine
end
section
open PySem PySem.W PyProof.Rows PySem.Calls PySem.Spec
open PySem.Sem (wp)
set_option Elab.async false
set_option maxRecDepth 100000
namespace Mine
section
variable {M : Model} {A : Around} {E : Value → Shared → Prop} {s : Shared} {env : Env} {Q : Value → Shared → Prop}
theorem wpC_keep {α : Type} {vs : List Value} {m : Sem α} {Q : α → Shared → Prop} (h : wpC M A m Q E s) : wpC M A (m.keep vs) Q E s := fun Γ p hΓ hC => by rw [Sem.wp_keep]; exact h Γ p hΓ hC
theorem tailC {t : Sem Value} (ht : wpC M A t Q E s) : wpC M A (t >>= fun r => holding [r] point >>= fun _ => pure r) Q E s :=
  wpC_bind (wpC_mono ht (fun _ _ hr => wpC_of (wpAny_bind (wpAny_holding (wpAny_point (wpAny_pure hr))))) fun _ _ x => x)
/-- a call of a callee that is no function of the program's own -/
theorem callWithC_val {pos : Pos} {f : Value} {first : List Value} {args : List (Bool × Sem Value)} (hf : keeperOf f = pure .machine) (hplain : args.any (·.1) = false)
    (h : wpC M A (evalArgs f true args []) (fun a s₁ => wpC M A (call f (first ++ a.pos) a.kw) Q E s₁) E s) : wpC M A (callWith pos f first args []) Q E s := by
  unfold callWith
  refine wpC_bind (wpC_holding (wpC_mono h (fun a s₁ h₁ => wpC_bind (wpC_standAt ?_)) fun _ _ x => x))
  simp only [hplain, List.any_nil, Bool.or_false]
  rw [hf]
  refine wpC_bind (wpC_pure ?_)
  exact tailC h₁
theorem evalArgsC_1 {f : Value} {x : Sem Value} {Q : Args → Shared → Prop} (h : wpC M A x (fun v s' => Q ⟨[v], []⟩ s') E s) : wpC M A (evalArgs f true [(false, x)] []) Q E s := by
  unfold evalArgs
  show wpC M A (spliced [(false, x)] >>= _) Q E s
  refine wpC_bind ?_
  rw [spliced]
  refine wpC_bind (wpC_mono h (fun v s₁ h₁ => ?_) fun _ _ x => x)
  simp only [Bool.false_eq_true, if_false]
  refine wpC_of (wpAny_bind (wpAny_pure (wpAny_bind (wpAny_holding (Calls.spliced_nil (wpAny_pure ?_))))))
  refine wpC_of ?_
  refine wpAny_bind (wpAny_pure ?_)
  refine wpAny_holding ?_
  exact wpAny_bind (wpAny_pure (wpAny_bind (wpAny_pure (wpAny_pure h₁))))
theorem evalArgsC_plain {f : Value} {x : Sem Value} {rest : List (Bool × Sem Value)} {Q : Args → Shared → Prop}
    (h : wpAny M A (spliced ((false, x) :: rest)) (fun vs s' => Q ⟨vs, []⟩ s') E s) : wpC M A (evalArgs f true ((false, x) :: rest) []) Q E s := wpC_of (Calls.evalArgs_plain h)
theorem wpC_Call_Name {x : Str} {np pos : Pos} {args : List Expr}
    (h : wpAny M A (eval (.Name x np) env) (fun f s₁ => wpC M A (callWith pos f [] (backTo pos (starEach args env)) []) Q E s₁) E s) : wpC M A (eval (.Call (.Name x np) args [] pos) env) Q E s := by
  show wpC M A (do callWith pos (← eval (.Name x np) env) [] (backTo pos (starEach args env)) (backToKw pos (keywordEach [] env))) Q E s
  exact wpC_bindA h
theorem wpC_isTrue_Compare1 {l : Expr} {op : CmpOp} {r : Expr} {pos : Pos} {whole : Sem Value} {Q : Bool → Shared → Prop}
    (h : wpC M A (eval l env) (fun a s₁ => wpAny M A (eval r env) (fun b s₂ => wpAny M A (compareOp op a b) (fun c s₃ => wpAny M A (truthy c) Q E s₃) E s₂) E s₁) E s)
    (hm : behindInMarks op r = false := by with_unfolding_all rfl) : wpC M A (isTrue (.Compare l [op] [r] pos) env whole) Q E s := fun Γ p hΓ hC => by
  simp only [isTrue_Compare1, markedBehindIn_of_false hm, Sem.wp_bind', Sem.wp_holding, Sem.wp_cmd_standAt, Sem.wp_operate]
  exact Sem.wp_mono M Γ _ (fun a p₁ s₁ h₁ => Sem.wp_mono M Γ _ (fun b _ s₂ h₂ => Sem.wp_mono M Γ _ (fun c p₃ s₃ h₃ => h₃ Γ p₃ hΓ)
    (fun _ _ _ h' => h') _ _ (h₂ Γ _ hΓ)) (fun _ _ _ h' => h') _ _ (h₁ Γ p₁ hΓ)) (fun _ _ _ h' => h') _ _ (h Γ p hΓ hC)
theorem wpC_isTrue_Or2 {x y : Expr} {pos : Pos} {whole : Sem Value} {Q : Bool → Shared → Prop}
    (h : wpC M A (isTrue x env (eval x env)) (fun b s₁ => if b then Q true s₁ else wpAny M A (isTrue y env (eval y env)) Q E s₁) E s) : wpC M A (isTrue (.BoolOp .Or [x, y] pos) env whole) Q E s := by
  rw [arm_isTrue_BoolOp]
  show wpC M A (do match BoolOp.Or, ← isTrue x env (eval x env) with | .And, false => pure false | .Or, true => pure true | _, _ => allTrue .Or [y] env) Q E s
  refine wpC_bind (wpC_mono h (fun b s₁ h₁ => ?_) fun _ _ x => x)
  cases b with
  | true => exact wpC_pure h₁
  | false =>
    refine wpC_of ?_
    show wpAny M A (do match BoolOp.Or, ← isTrue y env (eval y env) with | .And, false => pure false | .Or, true => pure true | _, _ => allTrue .Or [] env) Q E s₁
    refine wpAny_bind (wpAny_mono h₁ (fun b s₂ h₂ => ?_) fun _ _ x => x)
    cases b <;> exact wpAny_pure h₂
theorem wpC_For {target iter : Expr} {body orelse : List Stmt} {pos : Pos} {Q : Flow → Shared → Prop}
    (h : wpAny M A (eval iter env) (fun x s₁ => wpAny M A (pyIter x) (fun it s₂ =>
      codeC M A (.forLoop target it body orelse env) (fun r s' => match r with | .ok f => Q f s' | .error e => cameBackBy M A env E e s') s₂) E s₁) E s)
    (hs : ∀ x, foldedSetIterable iter env x = pure x := by intro _; rfl) : wpC M A (exec (.For target iter body orelse pos) env) Q E s := by
  rw [exec_For]
  refine wpC_bind (wpC_standAt (wpC_bindA (wpAny_mono h (fun x s₁ h₁ => wpC_bindA (wpAny_of_eq (hs x) (wpC_bind (wpC_standAt (wpC_bindA (wpAny_holding
    (wpAny_mono h₁ (fun it s₂ h₂ => ?_) fun _ _ h' => h'))))))) fun _ _ h' => h')))
  unfold runOwn
  exact wpC_onRaise (wpC_run rfl h₂)
end
end Mine
end
section
open PySem PySem.W PyProof.Rows PySem.Calls PySem.Spec
open PySem.Sem (wp)
set_option Elab.async false
set_option maxRecDepth 100000
namespace Mine
section
variable {prog : Program} {w : World} {A : Around} {s : Shared} {env : Env} {R : Result → Shared → Prop}
theorem wpC_noted {α : Type} {M : Model} {E : Value → Shared → Prop} {m : Sem α} {Q : α → Shared → Prop} (h : wpC M A m Q (notedBy M A env E) s) : wpC M A (m.onRaise fun x => do noteFrame x env; theTreesLotGoes x) Q E s :=
  wpC_onRaise (wpC_mono h (fun _ _ q => q) fun _ _ hx => wpAny_bind (wpAny_mono hx (fun _ _ e => wpAny_theTreesLotGoes e) fun _ _ e => e))
/-- one turn of a for, where no decoder stands -/
theorem codeC_forTurn {target : Expr} {it : Value} {body orelse : List Stmt}
    (h : wpAny (model prog w) A (pyNext it) (fun r s₁ => match r with
      | none => wpAny (model prog w) A (execs orelse env) (fun f s₃ => R (.ok f) s₃) (notedBy (model prog w) A env fun e s' => R (.error e) s') s₁
      | some v => wpAny (model prog w) A (assign target env v) (fun _ s₂ => wpC (model prog w) A (execs body env) (fun f s₃ => match f with
          | .next | .cont => codeC (model prog w) A (.forLoop target it body orelse env) R s₃
          | .brk => R (.ok .next) s₃
          | .ret v => R (.ok (.ret v)) s₃) (notedBy (model prog w) A env fun e s' => R (.error e) s') s₂) (notedBy (model prog w) A env fun e s' => R (.error e) s') s₁) (notedBy (model prog w) A env fun e s' => R (.error e) s') s)
    (ht : ∀ v, letOwnedTupleGo target it v = pure () := by intro _; rfl) : codeC (model prog w) A (.forLoop target it body orelse env) R s := by
  refine codeC_of_tree ?_
  rw [Around.under_of_weight rfl]
  show wpC _ _ ((forTurn target it body orelse env).onRaise (fun x => do noteFrame x env; theTreesLotGoes x)) _ _ s
  refine wpC_noted ?_
  simp only [forTurn]
  refine wpC_bind (wpC_standAt (wpC_bindA (wpAny_onRaise (wpAny_mono h (fun r s₁ h₁ => ?_) fun _ _ h' => wpAny_standAt h'))))
  cases r with
  | none => exact wpC_pure ⟨rfl, rfl, codeC_of (codeAny_block h₁)⟩
  | some v =>
    refine wpC_bindA (wpAny_of_eq (ht v) ?_)
    refine wpC_bindA (wpAny_mono h₁ (fun _ s₂ h₂ => wpC_bind (wpC_mono h₂ (fun f s₃ h₃ => ?_) fun _ _ h' => h')) fun _ _ h' => h')
    cases f with
    | next => exact wpC_pure ⟨rfl, rfl, h₃⟩
    | cont => exact wpC_pure ⟨rfl, rfl, h₃⟩
    | brk => exact wpC_pure h₃
    | ret v => exact wpC_pure h₃
end
end Mine
end
section
open PySem PySem.W PyProof.Rows PySem.Calls PySem.Spec
open PySem.Sem (wp)
set_option Elab.async false
set_option maxRecDepth 100000
namespace Mine
/-! ### the head, with a call that looks at the stack once -/
noncomputable def okStack (st : List (Code × Pos)) : Bool := st.all fun x => okCode x.1
noncomputable def callG (f : Value) (vs : List Value) : Sem Value := do
  let st ← stack
  if okStack st = true then PySem.call f vs else pure (.bool true)
noncomputable def treeN (n : Str) (vs : List Value) : Sem Fin := do
  match ← nsGet mainNs n with
  | some f => do ret (← PySem.call f vs)
  | none => unsupported "claim.caller:no-such-global"
noncomputable def treeG (n : Str) (vs : List Value) : Sem Fin := do
  let st ← stack
  if okStack st = true then treeN n vs else pure (.done (.ret (.bool true)))
theorem noDec_of {Γ : PySem.Ctx} {p : Pos} (h : okStack ((Γ.code, p) :: Γ.below) = true) : NoDec Γ := by
  simp only [okStack, List.all_cons, Bool.and_eq_true, List.all_eq_true] at h
  exact ⟨h.1, h.2⟩
/-- what is left of the guarded call -/
theorem wpAny_callG {M : Model} {A : Around} {f : Value} {vs : List Value} {Q : Value → Shared → Prop} {E : Value → Shared → Prop} {s : Shared}
    (h : wpC M A (PySem.call f vs) Q E s) (hj : Q (.bool true) s) : wpAny M A (callG f vs) Q E s := fun Γ p hΓ => by
  show wp M Γ (if okStack ((Γ.code, p) :: Γ.below) = true then PySem.call f vs else pure (.bool true)) _ _ p s
  split
  · next e => exact h Γ p hΓ (noDec_of e)
  · exact hj
theorem treeG_of {M : Model} {A : Around} {n : Str} {vs : List Value} {f : Value} {s : Shared} {mg : Str → Option Value} {Q : Fin → Shared → Prop} {E : Value → Shared → Prop} (hg : s.heap.Ns mainGlobals mg) (hf : mg n = some f)
    (h : wpAny M A (callG f vs) (fun v s' => Q (.done (.ret v)) s') E s) : wpAny M A (treeG n vs) Q E s := fun Γ p hΓ => by
  have h' := h Γ p hΓ
  change wp M Γ (if okStack ((Γ.code, p) :: Γ.below) = true then PySem.call f vs else pure (.bool true)) _ _ p s at h'
  show wp M Γ (if okStack ((Γ.code, p) :: Γ.below) = true then treeN n vs else pure (.done (.ret (.bool true)))) _ _ p s
  split
  · next e =>
    rw [if_pos e] at h'
    unfold treeN
    rw [Sem.wp_bind']
    refine (Sem.wp_nsGet M Γ _ p s hg n _).mpr ?_
    rw [hf]
    show wp M Γ (PySem.call f vs >>= fun v => ret v) _ _ p s
    rw [Sem.wp_bind']
    exact h'
  · next e => rw [if_neg e] at h'; exact h'
theorem callFrom_plain {c : ClaimW} {n : Str} {w : World} {s : Shared} {free : Addr → Prop} {gens : Prop} {kept : Heap → Prop} (hz : s.asleep)
    (H : c.CallFrom (fun vs => ⟨treeG n vs, .builtin "claim.caller" {}, default, []⟩) w free gens kept s) : c.CallFrom (fun vs => ⟨treeN n vs, .builtin "claim.caller" {}, default, []⟩) w free gens kept s := by
  intro args h1 h2 ord h3
  obtain ⟨vs, s₁, hl, k, o, s', hrun, rest⟩ := H args h1 h2 ord h3
  have hz1 : s₁.asleep := Shared.asleep_of_life (layAllW_rest _ _ _ hl).2.2.2 hz
  refine ⟨vs, s₁, hl, ?_⟩
  cases k with
  | zero => cases hrun
  | succ m =>
    refine ⟨m, o, s', ?_, rest⟩
    have hst : step (denote table) c.prog w s₁ ⟨treeG n vs, .builtin "claim.caller" {}, default, []⟩ = .go s₁ ⟨treeN n vs, .builtin "claim.caller" {}, default, []⟩ := by
      have e : treeG n vs = .stack fun st => if okStack st = true then treeN n vs else pure (.done (.ret (.bool true))) := rfl
      rw [e]
      have e2 : okStack [(.builtin "claim.caller" {}, default)] = true := by decide +kernel
      show Step.go s₁ ⟨if okStack [(.builtin "claim.caller" {}, default)] = true then treeN n vs else _, _, _, _⟩ = _
      rw [if_pos e2]
    have e := (sstep_single (denote table) c.prog w s₁ ⟨treeG n vs, .builtin "claim.caller" {}, default, []⟩ (by rfl) hz1).resolve_right (by rw [hst]; intro x; cases x)
    rw [hst] at e
    simp only [schedN, e] at hrun
    exact hrun
open PySem.W in
theorem PySem.W.holds_open {r : OpenRow} {q : Program} {loose : List Str} {Xt : Shared → Bool} {XP : (Str → Option Value) → Heap → Prop} {α : Type} {Yf : Shared → α} {Ya : World → α} {YP : World → Heap → Prop} {d : DefRec} {kwd : List (Str × Expr)} {N : Nat}
    (left : LeftO r.prog q loose Xt Yf Ya N) (hY : ∀ w s, Yf s = Ya w → YP w s.heap) (hYk : ∀ w h h', YP w h → (∀ b o, h.get? b = some o → h'.get? b = some o) → YP w h')
    (hX : ∀ s, Xt s = true → XP (s.heap.nsMap mainGlobals) s.heap) (hXk : ∀ mg h h', XP mg h → (∀ b o, h.get? b = some o → h'.get? b = some o) → XP mg h')
    (hdef : defOf q r.name = some (d, kwd)) (hp : r.prog.theDef r.name = some (d.params, d.body, d.scope)) (hk : kwWritten? d.params.kwonlyargs d.params.kw_defaults = some kwd) (hRf : ∀ s, Xt s = true → RecFacts r.records s.heap) (hwr : (!r.writes || r.records.isEmpty) = true)
    (k1 : r.wellSaid = true) (ok : (chainsOk q && opensWell r.prog && (frees r.toRowW && r.within.isEmpty)) = true) (hb : r.prog.bare) (hw : r.toRowW.promised)
    (call : WalkO q loose XP YP r.toRowW d kwd callG) : r.Holds := by
  have hch : chainsOk q = true := (Bool.and_eq_true_iff.mp (Bool.and_eq_true_iff.mp ok).1).1
  have H := open_anyG (r := r.toRowW) (run := callG) (tree := treeG r.name) (defs := if r.pinned then [r.name] else []) (kps := r.keeps) (writes := r.writes) left hY hYk hX hXk hRf hwr ok hb hw
    (fun vs w s mg f Q E hg hf h => treeG_of hg hf h)
    (fun w s hg G n hn => by
      obtain rfl : n = r.name := by split at hn <;> simp_all
      exact pinned_of_view hg G hdef hp hk)
    (fun w s₀ s₁ mg mb G Y args vs as hpre hlay L low => by
      obtain ⟨a, o, pm, cd, doc, dV, kV, h1, h2, h3, h4, h5⟩ := G.fn hdef
      exact ⟨.ref a, h1, call w s₀ s₁ mg mb G Y a o pm cd doc dV kV h2 h3 h4 h5 (defOf_name hdef ▸ h1) L.gens args vs as hpre hlay L.reads L.well (L.low low)⟩)
  refine ⟨k1, hw, H.1, H.2.1, fun w => ⟨(H.2.2 w).1, fun s' hs' => ?_⟩⟩
  obtain ⟨s₀, hf, hg0, s₁, hT, hd, hr1, hr2, hc⟩ := (H.2.2 w).2 s' hs'
  obtain ⟨s₀', hf', _, s, hT', hz, _⟩ := (left.behind hX hch w).2 s' hs'
  obtain rfl : s₀' = s₀ := by have := hf'.symm.trans hf; cases this; rfl
  have hz1 : s₁.asleep := Shared.asleep_of_life (hT.2.1.trans hT'.2.1.symm) hz
  exact ⟨_, hf, hg0, s₁, hT, hd, hr1, hr2, callFrom_plain hz1 hc⟩
end Mine
end
section
open PySem PySem.W PyProof.Rows PySem.Calls PySem.Spec
set_option Elab.async false
set_option maxRecDepth 100000
namespace Mine
open Builtin
theorem by_special {b : Array UInt8} {t : Tok} {name : Str} {r : Option Value} (h : typeLookup (.type "bytes") name = pure r) : specialOf (.bytes b t) name = pure r := KBy.special_eq h
theorem lk_bytes_bytes : typeLookup (.type "bytes") "__bytes__" = pure (some (.builtin "bytes.__bytes__")) := by rw [typeLookup_type, builtinLookup_eq_fast]; kernel_rfl
section
variable {prog : Program} {w : World} {A : Around} {E : Value → Shared → Prop} {s : Shared} {b : Array UInt8} {t : Tok} {Q : Value → Shared → Prop}
/-- bytes(x) of bytes is x -/
theorem bytesOfBytes (h : Q (.bytes b t) s) : wpAny (model prog w) A (call (.type "bytes") [.bytes b t]) Q E s := by
  refine callType_codes (Q₁ := fun obj s₁ => s₁.TypeIs obj "bytes" ∧ Q obj s₁) F.bm_called (F.bm_typeCall _) F.entry_object_init ?_ fun obj s₁ h₁ => ?_
  · refine codeAny_of_tree ?_
    show wpAny _ A.in1.in1 (do checkBuiltinCall "bytes.__new__" ⟨[.type "bytes", .bytes b t], []⟩; again (.builtin "bytes.__new__" ⟨[.type "bytes", .bytes b t], []⟩)) _ _ s
    refine wpAny_bind (wpAny_of_eq (F.bm_newCall _) (wpAny_pure ⟨plainId_quiet F.bm_plain _, codeAny_builtin F.bm_entry ?_⟩))
    rw [Around.under_plainId F.bm_plain _]
    unfold Builtin.«bytes.__new__»
    refine wpAny_bind (wpAny_of_eq (a := true) rfl ?_)
    refine bm_if_false rfl ?_
    refine wpAny_bind (wpAny_of_eq F.bm_sub ?_)
    refine bm_if_false rfl ?_
    refine wpAny_bind (wpAny_of_eq (F.bm_bind _) ?_)
    refine wpAny_bind (wpAny_of_eq (a := ()) rfl ?_)
    refine wpAny_bind (wpAny_of_eq (a := ()) rfl ?_)
    refine bm_if_false rfl ?_
    refine wpAny_bind (wpAny_of_eq (by_special lk_bytes_bytes) ?_)
    refine wpAny_bind (wpAny_rule ?_)
    refine wpAny_bind (wpAny_of_eq (a := .type "bytes") rfl ?_)
    refine bm_if_true (by decide) ?_
    first
      | exact wpAny_pure ⟨rfl, h⟩
      | exact wpAny_bind (wpAny_pure (wpAny_pure ⟨rfl, h⟩))
  · exact ⟨h₁.1, F.args_object_init_2 obj _, object_init_meets F.bm_called.init.lookup F.bm_called.made (by decide) prog w A.in1 _ s₁ ⟨h₁.1, rfl, h₁.2⟩⟩
end
/-! ### bytearrays -/
noncomputable abbrev baObj (b : Array UInt8) : Obj := { cls := .type "bytearray", data := .bytearray b }
theorem ba_mro : mroOf (.type "bytearray") = pure [.type "bytearray", .type "object"] := by rw [mroOf_type]; kernel_rfl
theorem ba_lk_bytes : typeLookup (.type "bytearray") "__bytes__" = pure none := by rw [typeLookup_type, builtinLookup_eq_fast]; kernel_rfl
theorem ba_lk_index : typeLookup (.type "bytearray") "__index__" = pure none := by rw [typeLookup_type, builtinLookup_eq_fast]; kernel_rfl
theorem ba_lk_buffer : typeLookup (.type "bytearray") "__buffer__" = pure (some (.builtin "bytearray.__buffer__")) := by rw [typeLookup_type, builtinLookup_eq_fast]; kernel_rfl
theorem ba_lk_release : typeLookup (.type "bytearray") "__release_buffer__" = pure (some (.builtin "bytearray.__release_buffer__")) := by rw [typeLookup_type, builtinLookup_eq_fast]; kernel_rfl
theorem ba_sub : isSubtype (.type "bytearray") (.type "bytearray") = pure true := by rw [isSubtype_type]; kernel_rfl
section
variable {M : Model} {A : Around} {E : Value → Shared → Prop} {s : Shared} {a : Addr} {b : Array UInt8}
theorem ba_typeIs (h : s.heap.get? a = some (baObj b)) : s.TypeIs (.ref a) "bytearray" := ⟨_, h, rfl⟩
theorem ba_payload {Q : Array UInt8 → Shared → Prop} (h : s.heap.get? a = some (baObj b)) (hQ : Q b s) : wpAny M A (Bytes.payload (.ref a)) Q E s := by
  unfold Bytes.payload Bytes.payload?
  exact wpAny_bind (wpAny_bind (wpAny_load h (wpAny_pure (wpAny_pure hQ))))
theorem ba_isOwn {name id : String} {Q : Bool → Shared → Prop} (h : s.heap.get? a = some (baObj b)) (hl : typeLookup (.type "bytearray") (PySem.Str.ofString name) = pure (some (.builtin id)))
    (he : id.endsWith ("." ++ name) = true) (hd : id.dropRight (name.length + 1) = "bytearray") (hQ : Q true s) : wpAny M A (Bytes.slotIsOwn (.ref a) name) Q E s := by
  unfold Bytes.slotIsOwn
  refine wpAny_bind (wpAny_specialOf (ba_typeIs h) hl ?_)
  show wpAny _ _ (if (!id.endsWith ("." ++ name)) = true then _ else _) _ _ _
  rw [he, hd]
  exact wpAny_isInstance (ba_typeIs h) ba_sub hQ
theorem ba_ownRelease {Q : Bool → Shared → Prop} (h : s.heap.get? a = some (baObj b)) (hQ : Q false s) : wpAny M A (Bytes.ownRelease (.ref a)) Q E s := by
  unfold Bytes.ownRelease
  exact wpAny_bind (ba_isOwn h ba_lk_release (by decide +kernel) (by decide +kernel) (wpAny_pure hQ))
theorem ba_buffer {id : String} {full : Bool} {Q : Option (Array UInt8) → Shared → Prop} (h : s.heap.get? a = some (baObj b)) (hQ : Q (some b) s) : wpAny M A (Bytes.buffer? id (.ref a) full) Q E s := by
  unfold Bytes.buffer?
  refine wpAny_bind (wpAny_specialOf (ba_typeIs h) ba_lk_buffer ?_)
  try dsimp only
  refine wpAny_bind (ba_isOwn h ba_lk_buffer (by decide +kernel) (by decide +kernel) ?_)
  refine bm_if_false rfl ?_
  refine wpAny_bind (wpAny_specialOf (ba_typeIs h) ba_lk_buffer ?_)
  try dsimp only
  refine wpAny_bind (ba_ownRelease h ?_)
  refine bm_if_false rfl ?_
  exact wpAny_bind (ba_payload h (wpAny_pure hQ))
end
end Mine
end
section
open PySem PySem.W PyProof.Rows PySem.Calls PySem.Spec
set_option Elab.async false
set_option maxRecDepth 100000
namespace Mine
open Builtin
section
variable {prog : Program} {w : World} {A : Around} {E : Value → Shared → Prop} {s : Shared} {a : Addr} {b : Array UInt8} {t : Tok} {Q : Value → Shared → Prop}
/-- bytes(x) of a bytearray -/
theorem bytesOfBa (ha : s.heap.get? a = some (baObj b)) (hz : b.size ≤ sizeLine) (h : ∀ t' k, Q (.bytes b t') { s with toks := k }) : wpAny (model prog w) A (call (.type "bytes") [.ref a]) Q E s := by
  refine callType_codes (Q₁ := fun obj s₁ => s₁.TypeIs obj "bytes" ∧ Q obj s₁) F.bm_called (F.bm_typeCall _) F.entry_object_init ?_ fun obj s₁ h₁ => ?_
  · refine codeAny_of_tree ?_
    show wpAny _ A.in1.in1 (do checkBuiltinCall "bytes.__new__" ⟨[.type "bytes", .ref a], []⟩; again (.builtin "bytes.__new__" ⟨[.type "bytes", .ref a], []⟩)) _ _ s
    refine wpAny_bind (wpAny_of_eq (F.bm_newCall _) (wpAny_pure ⟨plainId_quiet F.bm_plain _, codeAny_builtin F.bm_entry ?_⟩))
    rw [Around.under_plainId F.bm_plain _]
    unfold Builtin.«bytes.__new__»
    refine wpAny_bind (wpAny_of_eq (a := true) rfl ?_)
    refine bm_if_false rfl ?_
    refine wpAny_bind (wpAny_of_eq F.bm_sub ?_)
    refine bm_if_false rfl ?_
    refine wpAny_bind (wpAny_of_eq (F.bm_bind _) ?_)
    refine wpAny_bind (wpAny_of_eq (a := ()) rfl ?_)
    refine wpAny_bind (wpAny_of_eq (a := ()) rfl ?_)
    refine bm_if_false rfl ?_
    refine wpAny_bind (wpAny_specialOf (ba_typeIs ha) ba_lk_bytes ?_)
    refine wpAny_bind (wpAny_bind ?_)
    show wpAny _ _ (load a >>= _) _ _ _
    refine wpAny_bind (wpAny_load ha ?_)
    refine wpAny_pure (wpAny_pure ?_)
    refine bm_if_false rfl ?_
    refine wpAny_bind (wpAny_specialOf (ba_typeIs ha) ba_lk_index ?_)
    refine bm_if_true rfl ?_
    first
      | show wpAny _ _ (Bytes.buffer? "bytes.__new__" (.ref a) true >>= _) _ _ _
      | (refine wpAny_bind ?_; show wpAny _ _ (Bytes.buffer? "bytes.__new__" (.ref a) true >>= _) _ _ _)
    refine wpAny_bind (ba_buffer ha ?_)
    refine wpAny_bind (wpAny_rule ?_)
    refine wpAny_bind (wpAny_mkBytes ?_ hz)
    show wpAny _ _ (if (Value.type "bytes" == Value.type "bytes") = true then _ else _) _ _ _
    refine bm_if_true (by decide) ?_
    first
      | exact wpAny_pure ⟨rfl, h _ _⟩
      | exact wpAny_bind (wpAny_pure (wpAny_pure ⟨rfl, h _ _⟩))
  · exact ⟨h₁.1, F.args_object_init_2 obj _, object_init_meets F.bm_called.init.lookup F.bm_called.made (by decide) prog w A.in1 _ s₁ ⟨h₁.1, rfl, h₁.2⟩⟩
end

/-! ### bytearray(..) -/
theorem ba_lk_new : typeLookup (.type "bytearray") "__new__" = pure (some (.builtin "bytearray.__new__")) := by rw [typeLookup_type, builtinLookup_eq_fast]; kernel_rfl
theorem ba_slot_init : Slot "bytearray" "__init__" "bytearray.__init__" :=
  .of (owner := "bytearray") (n := "__init__") (by rw [typeLookup_type, builtinLookup_eq_fast]; kernel_rfl) (by decide +kernel) (by decide +kernel) (by decide +kernel)
    (by first | exact .inl (by decide +kernel) | exact .inr (by decide +kernel)) (by rw [isSubtype_type]; kernel_rfl)
theorem ba_called : TypeCalled "bytearray" "bytearray.__new__" "bytearray.__init__" :=
  ⟨by decide +kernel, by decide +kernel, ⟨_, _, ba_mro⟩, madeBy_type ba_mro ba_lk_new (by decide +kernel), by decide +kernel, ba_sub, ba_slot_init⟩
theorem ba_typeCall (a : Value) : checkTypeCall "bytearray" ⟨[a], []⟩ = pure () := by kernel_rfl
theorem ba_newCall (a : Value) : checkBuiltinCall "bytearray.__new__" ⟨[.type "bytearray", a], []⟩ = pure () := by kernel_rfl
theorem ba_plain : plainId "bytearray.__new__" = true := by decide +kernel
theorem ba_entry_new : entryFor table "bytearray.__new__" = some Builtin.«list.__new__» := by
  first | exact entryFor_alias (id' := "list.__new__") (by kernel_rfl) rfl (by decide +kernel) (by kernel_rfl) | exact entryFor_of_fast (by kernel_rfl) | exact entryFor_of_tree (by kernel_rfl)
theorem ba_entry_init : entryFor table "bytearray.__init__" = some Builtin.«bytearray.__init__» := by first | exact entryFor_of_fast (by kernel_rfl) | exact entryFor_of_tree (by kernel_rfl)
theorem ba_args_init (a b : Value) : argsOk "bytearray.__init__" ⟨[a, b], []⟩ := by unfold argsOk; kernel_rfl
theorem ba_bind (v : Value) : Bytes.bindOptional "bytearray.__init__" "bytearray" ["source", "encoding", "errors"] [v] [] = pure [some v, none, none] := by kernel_rfl
end Mine
end
section
open PySem PySem.W PyProof.Rows PySem.Calls PySem.Spec
open PySem.Sem (wp)
set_option Elab.async false
set_option maxRecDepth 100000
namespace Mine
open Builtin
set_option maxHeartbeats 4000000 in
theorem ba_owner : ("bytearray.__new__".splitOn ".__new__").headD "" = "bytearray" := by simp +decide [String.splitOn, String.splitOnAux]
section
variable {prog : Program} {w : World} {A : Around} {E : Value → Shared → Prop} {s : Shared}
theorem code_ba_new (a : Value) {Q₁ : Value → Shared → Prop}
    (h : Q₁ (.ref s.heap.objs.size) { s with heap := s.heap.push (baObj #[]) }) :
    codeAny (model prog w) A (.call (.builtin "bytearray.__new__") ⟨[.type "bytearray", a], []⟩) (wants Q₁ E) s := by
  refine codeAny_of_tree ?_
  show wpAny _ A.in1 (do checkBuiltinCall "bytearray.__new__" ⟨[.type "bytearray", a], []⟩; again (.builtin "bytearray.__new__" ⟨[.type "bytearray", a], []⟩)) _ _ s
  refine wpAny_bind (wpAny_of_eq (ba_newCall a) (wpAny_pure ⟨plainId_quiet ba_plain _, codeAny_builtin_stack ba_entry_new rfl fun p st => ?_⟩))
  rw [Around.under_plainId ba_plain _]
  have hsub := ba_sub
  have hown := ba_owner
  obtain ⟨hp, g, d, tk, os⟩ := s
  simp only [hown]
  wp_walk
  exact h
theorem wpC_if_false {M : Model} {α : Type} {c : Bool} {t e : Sem α} {Q : α → Shared → Prop} (hc : c = false) (h : wpC M A e Q E s) : wpC M A (if c = true then t else e) Q E s := by subst hc; exact h
theorem wpC_if_true {M : Model} {α : Type} {c : Bool} {t e : Sem α} {Q : α → Shared → Prop} (hc : c = true) (h : wpC M A t Q E s) : wpC M A (if c = true then t else e) Q E s := by subst hc; exact h
theorem codeC_builtin {R : Result → Shared → Prop} {id : String} {args : Args} {b : Builtin} (hb : entryFor table id = some b)
    (h : wpC (model prog w) (A.under (.builtin id args)) (b args)
      (fun fin s' => match fin with | .done f => R (.ok f) s' | .again c' => c'.quiet = true ∧ okCode c' = true ∧ codeC (model prog w) A c' R s') (fun e s' => R (.error e) s') s) :
    codeC (model prog w) A (.builtin id args) R s := by
  refine codeC_of_tree ?_
  show wpC _ _ (match entryFor table id with | some b => b args | none => unsupported ((withoutEnding? id "#data").getD id)) _ _ s
  rw [hb]; exact h
theorem codeC_call_builtin {R : Result → Shared → Prop} {id : String} {args : Args} {b : Builtin} (hq : plainId id = true) (hk : okCode (.builtin id args) = true) (hb : entryFor table id = some b)
    (h : wpAny (model prog w) A.in1 (checkBuiltinCall id args) (fun _ s₁ => wpC (model prog w) A.in1 (b args)
      (fun fin s' => match fin with | .done f => R (.ok f) s' | .again c' => c'.quiet = true ∧ okCode c' = true ∧ codeC (model prog w) A c' R s') (fun e s' => R (.error e) s') s₁)
      (fun e s' => R (.error e) s') s) : codeC (model prog w) A (.call (.builtin id) args) R s := by
  refine codeC_of_tree ?_
  show wpC _ A.in1 (do checkBuiltinCall id args; again (.builtin id args)) _ _ s
  refine wpC_bindA (wpAny_mono h (fun _ s₁ h₁ => wpC_pure ⟨plainId_quiet hq _, hk, codeC_builtin hb ?_⟩) fun _ _ x => x)
  rw [Around.under_plainId hq]
  exact h₁
theorem callC_ba {v : Value} {Q : Value → Shared → Prop}
    (h : wpC (model prog w) A.in1.in1 (Builtin.«bytearray.__init__» ⟨[.ref s.heap.objs.size, v], []⟩)
      (fun fin s' => fin = .done (.ret .none) ∧ s'.TypeIs (.ref s.heap.objs.size) "bytearray" ∧ Q (.ref s.heap.objs.size) s') E { s with heap := s.heap.push (baObj #[]) }) : wpC (model prog w) A (call (.type "bytearray") [v]) Q E s := by
  obtain ⟨c, tl, hmro⟩ := ba_called.mro
  refine wpC_call (codeC_of_tree ?_)
  show wpC _ A.in1 (callAny (.type "bytearray") ⟨[v], []⟩) _ _ s
  refine wpC_pure ⟨Code.quiet_builtin _ (by decide +kernel), (by show (!Builtin.Bytes.decodersThatHold.contains "type.__call__") = true; decide +kernel), codeC_builtin F.entry_type_call ?_⟩
  rw [Around.under_plain (weight_type_call_type "bytearray" [v] []) rfl]
  unfold Builtin.«type.__call__»
  refine wpC_if_false ba_called.notType ?_
  refine wpC_if_false ba_called.canCreate ?_
  refine wpC_bindA (wpAny_of_eq (ba_typeCall v) ?_)
  refine wpC_bindA (wpAny_of_eq hmro ?_)
  refine wpC_if_false rfl ?_
  refine wpC_bindA (wpAny_of_eq ba_called.made ?_)
  refine wpC_bindA (wpAny_pure ?_)
  refine wpC_bindA (wpAny_holding (wpAny_call (codeAny_mono (code_ba_new (E := E) (Q₁ := fun x s₁ => x = .ref s.heap.objs.size ∧ s₁ = { s with heap := s.heap.push (baObj #[]) }) v ⟨rfl, rfl⟩) fun r s₁ hr => ?_)))
  cases r with
  | error e => exact hr
  | ok fl =>
  cases fl with
  | ret obj =>
    obtain ⟨rfl, rfl⟩ := hr
    have hT : ({ s with heap := s.heap.push (baObj #[]) } : Shared).TypeIs (.ref s.heap.objs.size) "bytearray" := ba_typeIs (b := #[]) (Heap.get?_push_size _ rfl)
    refine wpC_bindA (wpAny_isInstance hT ba_sub ?_)
    refine wpC_if_false rfl ?_
    unfold callSpecial?
    refine wpC_bind (wpC_holding (wpC_bindA (wpAny_specialOf hT ba_slot_init.lookup ?_)))
    refine wpC_holding (wpC_bindA (wpAny_of_eq (ba_slot_init.bind _) ?_))
    refine wpC_bind (wpC_call (codeC_call_builtin ba_slot_init.plain (by show (!Builtin.Bytes.decodersThatHold.contains "bytearray.__init__") = true; decide +kernel) ba_entry_init (ba_slot_init.check _ _ _ _ _ _ _ _ hT (ba_args_init _ _) (wpC_mono h (fun fin s' hf => ?_) fun _ _ x => x))))
    obtain ⟨rfl, _, hQ⟩ := hf
    exact wpC_pure (wpC_if_false (by decide) (wpC_pure hQ))
  | _ => exact hr.elim
end
end Mine
end
section
open PySem PySem.W PyProof.Rows PySem.Calls PySem.Spec
open PySem.Sem (wp)
set_option Elab.async false
set_option maxRecDepth 100000
namespace Mine
open Builtin
section
variable {prog : Program} {w : World} {A : Around} {E : Value → Shared → Prop} {s : Shared}
theorem lk_int_index : typeLookup (.type "int") "__index__" = pure (some (.builtin "int.__index__")) := by rw [typeLookup_type, builtinLookup_eq_fast]; kernel_rfl
theorem special_int {k : Int} {t : Tok} {name : Str} {r : Option Value} (h : typeLookup (.type "int") name = pure r) : specialOf (.int k t) name = pure r := by
  show (do let t ← typeOf (.int k t); typeLookup t name) = pure r
  exact h
theorem lk_bytes_index : typeLookup (.type "bytes") "__index__" = pure none := by rw [typeLookup_type, builtinLookup_eq_fast]; kernel_rfl
theorem lk_bytes_buffer : typeLookup (.type "bytes") "__buffer__" = pure (some (.builtin "bytes.__buffer__")) := by rw [typeLookup_type, builtinLookup_eq_fast]; kernel_rfl
theorem lk_bytes_release : typeLookup (.type "bytes") "__release_buffer__" = pure none := by rw [typeLookup_type, builtinLookup_eq_fast]; kernel_rfl
theorem by_isInst {b : Array UInt8} {t : Tok} : isInstance (.bytes b t) (.type "bytes") = pure true := by rfl
theorem by_buffer {M : Model} {id : String} {full : Bool} {b : Array UInt8} {t : Tok} {Q : Option (Array UInt8) → Shared → Prop} (hQ : Q (some b) s) : wpAny M A (Bytes.buffer? id (.bytes b t) full) Q E s := by
  unfold Bytes.buffer?
  refine wpAny_bind (wpAny_of_eq (by_special lk_bytes_buffer) ?_)
  refine wpAny_bind ?_
  unfold Bytes.slotIsOwn
  refine wpAny_bind (wpAny_of_eq (by_special lk_bytes_buffer) ?_)
  show wpAny _ _ (if (!("bytes.__buffer__" : String).endsWith ("." ++ "__buffer__")) = true then _ else _) _ _ _
  refine bm_if_false (by decide +kernel) ?_
  rw [show ("bytes.__buffer__" : String).dropRight (("__buffer__" : String).length + 1) = "bytes" by decide +kernel]
  refine wpAny_of_eq by_isInst ?_
  refine bm_if_false rfl ?_
  refine wpAny_bind (wpAny_of_eq (by_special lk_bytes_buffer) ?_)
  try dsimp only
  refine wpAny_bind ?_
  unfold Bytes.ownRelease Bytes.slotIsOwn
  refine wpAny_bind (wpAny_bind (wpAny_of_eq (by_special lk_bytes_release) (wpAny_pure (wpAny_pure ?_))))
  refine bm_if_false rfl ?_
  exact wpAny_bind (wpAny_of_eq (a := b) rfl (wpAny_pure hQ))
theorem ba_write {M : Model} {a : Addr} {b : Array UInt8} {f : Array UInt8 → Array UInt8} {Q : Unit → Shared → Prop} (h : s.heap.get? a = some (baObj b)) (hz : (f b).size ≤ sizeLine)
    (hQ : Q () { s with heap := s.heap.update a (Obj.mapBytearray f) }) : wpAny M A (Bytes.write (.ref a) f) Q E s := by
  unfold Bytes.write
  show wpAny M A (updateBytearray a f) Q E s
  unfold updateBytearray
  refine wpAny_bind (wpAny_load h ?_)
  refine wpAny_bind (wpAny_update h ?_)
  refine wpAny_lookBehind (o := baObj (f b)) (Heap.get?_update_self _ h rfl) ?_ hQ
  show (if (f b).size > _ then some _ else none) = none
  exact if_neg (Nat.not_lt.mpr (by first | exact hz | exact Nat.le_succ_of_le hz | omega))
theorem ba_init_bytes {a : Addr} {b c : Array UInt8} {t : Tok} {Q : Fin → Shared → Prop} (ha : s.heap.get? a = some (baObj c)) (hg : A.guards = some []) (hz : b.size ≤ sizeLine)
    (h : ∀ h', h'.get? a = some (baObj b) → Heap.SameBut a s.heap h' → Q (.done (.ret .none)) { s with heap := h' }) : wpC (model prog w) A (Builtin.«bytearray.__init__» ⟨[.ref a, .bytes b t], []⟩) Q E s := by
  unfold Builtin.«bytearray.__init__»
  refine wpC_bindA (ba_ownRelease ha ?_)
  refine wpC_if_false rfl ?_
  refine wpC_bindA (wpAny_of_eq (ba_bind _) ?_)
  refine wpC_bindA (wpAny_of_eq (a := ()) rfl ?_)
  refine wpC_bindA (wpAny_of_eq (a := ()) rfl ?_)
  refine wpC_bind ?_
  show wpC _ _ (Bytes.exported (.ref a) >>= _) _ _ _
  refine wpC_bind (wpC_exported hg ?_)
  refine wpC_bindA ?_
  unfold Bytes.exportsOf
  refine wpAny_bind (wpAny_load ha ?_)
  refine wpAny_pure (wpC_pure ?_)
  refine wpC_if_false rfl ?_
  refine wpC_of ?_
  refine wpAny_bind (ba_write ha (by simp) ?_)
  have ha' : (s.heap.update a (Obj.mapBytearray fun _ => #[])).get? a = some (baObj #[]) := Heap.get?_update_self _ ha rfl
  refine wpAny_bind (wpAny_of_eq (a := none) rfl ?_)
  refine bm_if_false rfl ?_
  refine wpAny_bind (wpAny_of_eq (a := ()) rfl ?_)
  refine wpAny_bind (wpAny_of_eq (by_special lk_bytes_index) ?_)
  refine bm_if_false rfl ?_
  refine wpAny_bind (by_buffer ?_)
  refine wpAny_bind (wpAny_rule ?_)
  refine wpAny_bind (ba_write ha' hz ?_)
  exact wpAny_pure (h _ (Heap.get?_update_self _ ha' rfl) ((Heap.SameBut.update _ _ _).trans (Heap.SameBut.update _ _ _)))
theorem ba_init_zero {a : Addr} {c : Array UInt8} {t : Tok} {Q : Fin → Shared → Prop} (ha : s.heap.get? a = some (baObj c)) (hg : A.guards = some [])
    (h : ∀ h', h'.get? a = some (baObj #[]) → Heap.SameBut a s.heap h' → Q (.done (.ret .none)) { s with heap := h' }) : wpC (model prog w) A (Builtin.«bytearray.__init__» ⟨[.ref a, .int 0 t], []⟩) Q E s := by
  unfold Builtin.«bytearray.__init__»
  refine wpC_bindA (ba_ownRelease ha ?_)
  refine wpC_if_false rfl ?_
  refine wpC_bindA (wpAny_of_eq (ba_bind _) ?_)
  refine wpC_bindA (wpAny_of_eq (a := ()) rfl ?_)
  refine wpC_bindA (wpAny_of_eq (a := ()) rfl ?_)
  refine wpC_bind ?_
  show wpC _ _ (Bytes.exported (.ref a) >>= _) _ _ _
  refine wpC_bind (wpC_exported hg ?_)
  refine wpC_bindA ?_
  unfold Bytes.exportsOf
  refine wpAny_bind (wpAny_load ha ?_)
  refine wpAny_pure (wpC_pure ?_)
  refine wpC_if_false rfl ?_
  refine wpC_of ?_
  refine wpAny_bind (ba_write ha (by simp) ?_)
  refine wpAny_bind (wpAny_of_eq (a := none) rfl ?_)
  refine bm_if_false rfl ?_
  refine wpAny_bind (wpAny_of_eq (a := ()) rfl ?_)
  refine wpAny_bind (wpAny_of_eq (a := some (.builtin "int.__index__")) (special_int lk_int_index) ?_)
  refine bm_if_true rfl ?_
  refine wpAny_bind (wpAny_of_eq (a := .ok 0) rfl ?_)
  refine wpAny_bind (wpAny_rule ?_)
  exact wpAny_pure (h _ (Heap.get?_update_self _ ha rfl) (Heap.SameBut.update _ _ _))
end
end Mine
end
section
open PySem PySem.W PyProof.Rows PySem.Calls PySem.Spec
open PySem.Sem (wp)
set_option Elab.async false
set_option maxRecDepth 100000
namespace Mine
open Builtin
section
variable {prog : Program} {w : World} {A : Around} {E : Value → Shared → Prop} {s : Shared} {Q : Value → Shared → Prop}
theorem ba_post {h h' : Heap} {b : Array UInt8} (e : h'.get? h.objs.size = some (baObj b)) (x : Heap.SameBut h.objs.size (h.push (baObj #[])) h') : Kept h h' ∧ h'.objs.size = h.objs.size + 1 := by
  refine ⟨fun a o q => ?_, by rw [x.1, Heap.size_push]⟩
  have hne : a ≠ h.objs.size := Nat.ne_of_lt (Heap.lt_size q)
  rw [x.2 a hne]
  exact Heap.get?_push_of_some _ q
/-- bytearray(b) -/
theorem ba_make_bytes {b : Array UInt8} {t : Tok} (hg : A.guards = some []) (hz : b.size ≤ sizeLine)
    (h : ∀ h', Kept s.heap h' → h'.objs.size = s.heap.objs.size + 1 → h'.get? s.heap.objs.size = some (baObj b) → Q (.ref s.heap.objs.size) { s with heap := h' }) : wpC (model prog w) A (call (.type "bytearray") [.bytes b t]) Q E s := by
  refine callC_ba (ba_init_bytes (c := #[]) (Heap.get?_push_size _ rfl) hg hz fun h' e x => ⟨rfl, ba_typeIs (b := b) e, ?_⟩)
  have p := ba_post e x
  exact h h' p.1 p.2 e
/-- bytearray(0) -/
theorem ba_make_zero {t : Tok} (hg : A.guards = some [])
    (h : ∀ h', Kept s.heap h' → h'.objs.size = s.heap.objs.size + 1 → h'.get? s.heap.objs.size = some (baObj #[]) → Q (.ref s.heap.objs.size) { s with heap := h' }) : wpC (model prog w) A (call (.type "bytearray") [.int 0 t]) Q E s := by
  refine callC_ba (ba_init_zero (c := #[]) (Heap.get?_push_size _ rfl) hg fun h' e x => ⟨rfl, ba_typeIs (b := #[]) e, ?_⟩)
  have p := ba_post e x
  exact h h' p.1 p.2 e
/-! ### extend -/
theorem ba_plainAttrs : PlainAttrs "bytearray" :=
  ⟨⟨"bytearray.__getattribute__", by rw [typeLookup_type, builtinLookup_eq_fast]; kernel_rfl, by decide +kernel⟩, by rw [typeLookup_type, builtinLookup_eq_fast]; kernel_rfl⟩
theorem ba_slot_extend : Slot "bytearray" "extend" "bytearray.extend" :=
  .of (owner := "bytearray") (n := "extend") (by rw [typeLookup_type, builtinLookup_eq_fast]; kernel_rfl) (by decide +kernel) (by decide +kernel) (by decide +kernel)
    (by first | exact .inl (by decide +kernel) | exact .inr (by decide +kernel)) (by rw [isSubtype_type]; kernel_rfl)
theorem ba_entry_extend : entryFor table "bytearray.extend" = some Builtin.«bytearray.extend» := by first | exact entryFor_of_fast (by kernel_rfl) | exact entryFor_of_tree (by kernel_rfl)
theorem ba_args_extend (a b : Value) : argsOk "bytearray.extend" ⟨[a, b], []⟩ := by unfold argsOk; kernel_rfl
theorem ba_ty_extend : typeOf (.builtin "bytearray.extend") = pure (.type "method_descriptor") := by kernel_rfl
theorem ba_take {M : Model} {id : String} {a : Addr} {b : Array UInt8} {Q : Option (Array UInt8 × Option Value) → Shared → Prop} (ha : s.heap.get? a = some (baObj b)) (hQ : Q (some (b, none)) s) :
    wpAny M A (Bytes.takeBufferQuiet? id (.ref a) 0) Q E s := by
  unfold Bytes.takeBufferQuiet?
  refine wpAny_bind (wpAny_attempt ?_)
  unfold Bytes.takeBuffer?
  refine wpAny_bind (wpAny_specialOf (ba_typeIs ha) ba_lk_buffer ?_)
  try dsimp only
  refine wpAny_bind (ba_isOwn ha ba_lk_buffer (by decide +kernel) (by decide +kernel) ?_)
  refine bm_if_false rfl ?_
  refine wpAny_bind (wpAny_specialOf (ba_typeIs ha) ba_lk_buffer ?_)
  try dsimp only
  exact wpAny_bind (ba_buffer ha (wpAny_pure (wpAny_pure hQ)))
theorem ba_extend {a c : Addr} {x y : Array UInt8} {Q : Fin → Shared → Prop} (ha : s.heap.get? a = some (baObj x)) (hc : s.heap.get? c = some (baObj y)) (hg : A.guards = some []) (hz : (x ++ y).size ≤ sizeLine)
    (h : ∀ h', h'.get? a = some (baObj (x ++ y)) → Heap.SameBut a s.heap h' → Q (.done (.ret .none)) { s with heap := h' }) : wpC (model prog w) A (Builtin.«bytearray.extend» ⟨[.ref a, .ref c], []⟩) Q E s := by
  unfold Builtin.«bytearray.extend»
  refine wpC_bindA (wpAny_of_eq (a := (.ref a, .ref c)) rfl ?_)
  refine wpC_bindA (wpAny_specialOf (ba_typeIs hc) ba_lk_buffer ?_)
  refine wpC_if_true rfl ?_
  refine wpC_bindA (wpAny_rule ?_)
  refine wpC_bindA (ba_payload ha ?_)
  refine wpC_bindA (ba_take hc ?_)
  refine wpC_if_true rfl ?_
  have fin : wpC (model prog w) A (Bytes.write (.ref a) (· ++ y) >>= fun _ => ret .none) Q E s := wpC_bindA (ba_write ha hz (wpC_pure (h _ (Heap.get?_update_self _ ha rfl) (Heap.SameBut.update _ _ _))))
  show wpC _ _ (if (!y.isEmpty) = true then Bytes.checkResize (.ref a) >>= fun _ => Bytes.write (.ref a) (· ++ y) >>= fun _ => ret .none else Bytes.write (.ref a) (· ++ y) >>= fun _ => ret .none) _ _ _
  split
  · refine wpC_bind ?_
    unfold Bytes.checkResize
    refine wpC_bind ?_
    show wpC _ _ (Bytes.exported (.ref a) >>= _) _ _ _
    refine wpC_bind (wpC_exported hg ?_)
    refine wpC_bindA ?_
    unfold Bytes.exportsOf
    refine wpAny_bind (wpAny_load ha ?_)
    refine wpAny_pure (wpC_pure ?_)
    exact wpC_if_false rfl (wpC_pure fin)
  · exact fin
theorem wpC_Expr {env : Env} {e : Expr} {pos : Pos} {Q : Flow → Shared → Prop} (h : wpC (model prog w) A (eval e env) (fun v s' => v = .none ∧ Q .next s') E s)
    (hi : interactive env = false := by rfl) (hs : swapsWith e none pos.line env = pure false := by rfl) : wpC (model prog w) A (exec (.Expr e pos) env) Q E s := by
  rw [exec_Expr env e pos hi hs]
  exact wpC_bind (wpC_standAt (wpC_bind (wpC_mono h (fun v s' h' => wpC_of (by obtain ⟨rfl, h'⟩ := h'; exact wpAny_dropValue h')) fun _ _ x => x)))
/-- x.extend(y) of two bytearrays that names hold -/
theorem ba_Call_extend {env : Env} {o e : Expr} {apos pos : Pos} {Q : Value → Shared → Prop} (hg : A.guards = some [])
    (hbase : attributeBase o "extend" env (eval o env) = eval o env) (hline : (apos.endLine == pos.line) = true) (hse : starEach [e] env = [(false, eval e env)])
    (h : wpAny (model prog w) A (eval o env) (fun ov s₁ => ∃ a x₀, ov = .ref a ∧ s₁.heap.get? a = some (baObj x₀) ∧ wpAny (model prog w) A (eval e env) (fun ev s₂ => ∃ c x y, ev = .ref c ∧ s₂.heap.get? a = some (baObj x) ∧ s₂.heap.get? c = some (baObj y) ∧ (x ++ y).size ≤ sizeLine ∧
      ∀ h', h'.get? a = some (baObj (x ++ y)) → Heap.SameBut a s₂.heap h' → Q .none { s₂ with heap := h' }) E s₁) E s) : wpC (model prog w) A (eval (.Call (.Attribute o "extend" apos) [e] [] pos) env) Q E s := by
  rw [arm_eval_Call, hbase, hse]
  refine wpC_bindA (wpAny_mono h (fun ov s₁ h₁ => ?_) fun _ _ x => x)
  obtain ⟨a, x₀, rfl, ha, h₂⟩ := h₁
  refine wpC_bind (wpC_standAt ?_)
  have hpos : methodCallPos true o env apos pos = pure pos := by unfold methodCallPos; simp [hline]
  unfold methodCall
  have hform : methodCallForm ([e].length + ([] : List Keyword).length) (backTo pos [(false, eval e env)]) (backToKw pos (keywordEach [] env)) = true := rfl
  rw [hform]
  refine wpC_bindA (wpAny_holding (getMethod_builtin (ba_typeIs ha) ba_plainAttrs ba_slot_extend ba_ty_extend (fun b hb => by cases hb; exact ⟨_, ha, rfl⟩) ?_))
  refine wpC_bindA (wpAny_of_eq hpos ?_)
  refine callWithC_val rfl rfl ?_
  refine evalArgsC_plain (Calls.spliced_cons (wpAny_mono h₂ (fun ev s₂ h₃ => Calls.spliced_nil ?_) fun _ _ x => x))
  obtain ⟨c, x, y, rfl, ha2, hc, hz, hQ⟩ := h₃
  refine wpC_call (codeC_call_builtin ba_slot_extend.plain (by show (!Builtin.Bytes.decodersThatHold.contains "bytearray.extend") = true; decide +kernel) ba_entry_extend (ba_slot_extend.check _ _ _ _ _ _ _ _ (ba_typeIs ha2) (ba_args_extend _ _) ?_))
  exact ba_extend ha2 hc hg hz fun h' e1 e2 => hQ h' e1 e2
end
end Mine
end
section
open PySem PySem.W PyProof.Rows PySem.Calls PySem.Spec
set_option Elab.async false
set_option maxRecDepth 100000
namespace Mine
open Builtin
theorem ba_slot_add : Slot "bytearray" "__add__" "bytearray.__add__" :=
  .of (owner := "bytearray") (n := "__add__") (by rw [typeLookup_type, builtinLookup_eq_fast]; kernel_rfl) (by decide +kernel) (by decide +kernel) (by decide +kernel)
    (by first | exact .inl (by decide +kernel) | exact .inr (by decide +kernel)) (by rw [isSubtype_type]; kernel_rfl)
theorem ba_entry_add : entryFor table "bytearray.__add__" = some Builtin.«bytearray.__add__» := by first | exact entryFor_of_fast (by kernel_rfl) | exact entryFor_of_tree (by kernel_rfl)
theorem ba_args_add (a b : Value) : argsOk "bytearray.__add__" ⟨[a, b], []⟩ := by unfold argsOk; kernel_rfl
theorem ba_noR_add : typeLookup (.type "bytearray") (dunderR "add") = pure none := by rw [typeLookup_type, builtinLookup_eq_fast]; kernel_rfl
theorem ba_noFill : fillsNumberSlot (.type "bytearray") "add" = pure false := PySem.fillsNumberSlot_seq (id := "bytearray.__add__") (r := none) ba_slot_add.lookup (by decide +kernel) ba_noR_add rfl
theorem ba_seq : seqSlot? (.type "bytearray") "__add__" = pure (some (.builtin "bytearray.__add__")) := PySem.seqSlot_of ba_slot_add.lookup (by decide +kernel)
section
variable {prog : Program} {w : World} {A : Around} {E : Value → Shared → Prop} {s : Shared} {a : Addr} {x y : Array UInt8} {t : Tok} {Q : Value → Shared → Prop}
theorem ba_quiet {id : String} {M : Model} {Q : Option (Array UInt8) → Shared → Prop} (hQ : Q (some y) s) : wpAny M A (Bytes.bufferQuiet? id (.bytes y t)) Q E s := by
  unfold Bytes.bufferQuiet?
  exact wpAny_bind (wpAny_attempt (by_buffer (wpAny_pure hQ)))
/-- bytearray + bytes -/
theorem ba_add (ha : s.heap.get? a = some (baObj x)) (hz : x.size + y.size ≤ 16777216) (h : Q (.ref s.heap.objs.size) { s with heap := s.heap.push (baObj (x ++ y)) }) : wpAny (model prog w) A (binaryOp .Add (.ref a) (.bytes y t)) Q E s := by
  unfold binaryOp
  refine wpAny_holding ?_
  refine wpAny_bind ?_
  show wpAny _ _ (binaryOp1 "add" (.ref a) (.bytes y t)) _ _ _
  unfold binaryOp1
  refine wpAny_bind (wpAny_typeOf (ba_typeIs ha) (wpAny_bind (wpAny_of_eq (a := .type "bytes") rfl (wpAny_bind (wpAny_of_eq ba_noFill ?_)))))
  refine wpAny_bind (wpAny_of_eq (a := false) KBy.noFill_bytes_add ?_)
  repeat refine bm_if_false rfl ?_
  refine wpAny_pure ?_
  refine wpAny_bind (wpAny_typeOf (ba_typeIs ha) (wpAny_bind (wpAny_of_eq ba_seq ?_)))
  refine wpAny_bind (wpAny_rule ?_)
  refine wpAny_call_entry ba_slot_add (ba_typeIs ha) ba_entry_add ?_ (ba_args_add _ _)
  unfold Builtin.«bytearray.__add__»
  refine wpAny_bind (wpAny_of_eq (a := (.ref a, [.bytes y t])) rfl ?_)
  refine wpAny_bind (ba_buffer ha ?_)
  refine wpAny_bind (ba_quiet ?_)
  refine bm_if_false (by
    show decide (x.size + y.size > sizeLine) = false
    exact decide_eq_false (by rw [sizeLine_eq]; omega)) ?_
  refine wpAny_bind ?_
  unfold Bytes.newBytearray
  refine wpAny_newObj_type (wpAny_pure ⟨_, rfl, h⟩) ?_
  show (x ++ y).size ≤ sizeLine
  rw [Array.size_append, sizeLine_eq]
  omega
/-! ### x[lo:hi] of a bytearray -/
theorem ba_slot_getitem : Slot "bytearray" "__getitem__" "bytearray.__getitem__" :=
  .of (owner := "bytearray") (n := "__getitem__") (by rw [typeLookup_type, builtinLookup_eq_fast]; kernel_rfl) (by decide +kernel) (by decide +kernel) (by decide +kernel)
    (by first | exact .inl (by decide +kernel) | exact .inr (by decide +kernel)) (by rw [isSubtype_type]; kernel_rfl)
theorem ba_entry_getitem : entryFor table "bytearray.__getitem__" = some Builtin.«bytearray.__getitem__» := by first | exact entryFor_of_fast (by kernel_rfl) | exact entryFor_of_tree (by kernel_rfl)
theorem ba_args_getitem (a b : Value) : argsOk "bytearray.__getitem__" ⟨[a, b], []⟩ := by unfold argsOk; kernel_rfl
end
end Mine
end
section
open PySem PySem.W PyProof.Rows PySem.Calls PySem.Spec
set_option Elab.async false
set_option maxRecDepth 100000
namespace Mine
open Builtin

theorem meets_baSlice (o a : Addr) (b : Array UInt8) (n : Int) (u : Tok) :
    Meets (Builtin.«bytearray.__getitem__» ⟨[.ref o, .ref a], []⟩) (fun _ R s => s.heap.get? o = some (baObj b) ∧ s.heap.IsSliceOf a .none (.int n u) .none ∧ (KBy.picked b none (some n)).size ≤ sizeLine ∧ R (.ok (.ret (.ref s.heap.objs.size))) { s with heap := s.heap.push (baObj (KBy.picked b none (some n))) }) := by
  refine .of_wp fun prog w A R s hS => ?_
  obtain ⟨hb, ⟨ob, ho, hc, hd⟩, hsz, h⟩ := hS
  have hT : s.TypeIs (.ref a) "slice" := ⟨ob, ho, hc⟩
  show wpAny _ _ (Bytes.subscript? (.ref a) >>= fun r => _) _ _ s
  refine wpAny_bind ?_
  unfold Bytes.subscript?
  refine wpAny_bind (wpAny_specialOf hT slice_no_index (wpAny_pure ?_))
  refine wpAny_bind (wpAny_typeOf hT ?_)
  show wpAny _ _ (Bytes.sliceParts (.ref a) >>= fun r => _) _ _ s
  refine wpAny_bind ?_
  unfold Bytes.sliceParts
  refine wpAny_bind (wpAny_field (x := .none) ho hd rfl ?_)
  kby_none
  refine wpAny_ite (KBy.ite_no (show ¬ ((Value.none == rawInt 0) = true) from Bool.false_ne_true) ?_)
  refine wpAny_bind (wpAny_field (x := .none) ho hd rfl ?_)
  have go : wpAny (model prog w) A.in1 (sliceIndices (rawPart none) (rawPart (some n)) (rawPart none) b.size) (fun r s' => r = sliceBounds none (some n) none b.size ∧ s' = s) (fun _ _ => False) s :=
    wpAny_of_eq (sliceIndices_raw none (some n) none b.size (fun e => nomatch e)) ⟨rfl, rfl⟩
  kby_none
  refine wpAny_bind (wpAny_field (x := .int n u) ho hd rfl ?_)
  kby_int
  refine wpAny_pure ?_
  refine wpAny_bind (ba_payload hb ?_)
  refine wpAny_bind (wpAny_mono go (fun r s' hr => ?_) fun _ _ e => e.elim)
  obtain ⟨hr1, hr2⟩ := hr
  subst hr1 hr2
  refine wpAny_bind ?_
  unfold Bytes.newBytearray
  refine wpAny_newObj_type (wpAny_pure ⟨_, rfl, h⟩) ?_
  exact hsz
section
variable {prog : Program} {w : World} {A : Around} {E : Value → Shared → Prop} {s : Shared} {Q : Value → Shared → Prop}
theorem ba_sliceTail {value slice : PySem.Expr} {o : Addr} {b : Array UInt8} {n : Int} {u : Tok} {l : Heap} (hl : l = s.heap.push { cls := .type "slice", data := .fields #[.none, .int n u, .none] }) (hb : s.heap.get? o = some (baObj b)) (hz : b.size ≤ 16777216)
    (h : Q (.ref l.objs.size) { s with heap := l.push (baObj (KBy.picked b none (some n))) })
    (hs : subscripted slice false (.ref o) (.ref s.heap.objs.size) = operate [.ref s.heap.objs.size, .ref o] (getItem (.ref o) (.ref s.heap.objs.size)) := by with_unfolding_all rfl)
    (ht : ∀ r, letTemporaryGo value (.ref o) r = pure () := by intro _; with_unfolding_all rfl) :
    wpAny (model prog w) A (subscriptTail value slice (.ref o) (.ref s.heap.objs.size)) Q E { s with heap := l } := by
  subst hl
  have hb' : (s.heap.push { cls := .type "slice", data := .fields #[.none, .int n u, .none] }).get? o = some (baObj b) := Heap.get?_push_of_some _ hb
  exact tail_of_ItemOn ⟨"bytearray", _, ba_slot_getitem.lookup, ba_typeIs (s := ⟨_, _, _, _, _⟩) hb', getItem_meets (ba_typeIs (s := ⟨_, _, _, _, _⟩) hb') (by decide) ba_slot_getitem ba_entry_getitem (ba_args_getitem _ _) (meets_baSlice o _ b n u)
    ⟨hb', Heap.IsSliceOf.new _ _ _ _, Nat.le_trans (KBc.size_picked_le b none (some n)) (by rw [sizeLine_eq]; exact hz), h⟩⟩ hs ht
end
end Mine
end
section
open PySem PySem.W PyProof.Rows PySem.Calls
open PySem.Sem (wp)
set_option Elab.async false
set_option maxRecDepth 100000
namespace Mine
open Builtin
/-! ### zip of two bytes -/
noncomputable abbrev BIt (h : Heap) (a : Addr) (b : Array UInt8) (t : Tok) (i : Nat) : Prop := KBw.IsBytesIter h a b t i
theorem BIt.at' {h h' : Heap} {a : Addr} {b : Array UInt8} {t : Tok} {i : Nat} (y : BIt h a b t i) (k : ∀ o, h.get? a = some o → h'.get? a = some o) : BIt h' a b t i :=
  let ⟨o, ho, r⟩ := y; ⟨o, k o ho, r⟩
section
variable {prog : Program} {w : World} {A : Around} {E : Value → Shared → Prop} {s : Shared} {b : Array UInt8} {t : Tok}
theorem nb_item {it : Addr} {i : Nat} {c : UInt8} {Q : Value → Shared → Prop} (hit : BIt s.heap it b t i) (hx : b[i]? = some c)
    (hQ : ∀ h', BIt h' it b t (i + 1) → Heap.SameBut it s.heap h' → Q (.int (c.toNat : Int) s.toks) { s with heap := h', toks := s.toks + 1 }) : wpAny (model prog w) A (SmallTypes.nextOf (.ref it)) Q E s := by
  obtain ⟨o, ho, hc, hd⟩ := id hit
  unfold SmallTypes.nextOf
  refine wpAny_bind (wpAny_callSpecial?_slot (name := PySem.Str.ofString "__next__") (KBw.iter_typeIs hit) KBw.slot_next (wpAny_call_entry KBw.slot_next (KBw.iter_typeIs hit) KBw.entry_next ?_ (KBw.args_next _)))
  show wpAny _ _ (field (.ref it) 0 >>= _) _ _ s
  refine wpAny_bind (wpAny_field ho hd (x := .bytes b t) rfl ?_)
  refine bm_if_false rfl ?_
  show wpAny _ _ (field (.ref it) 1 >>= _) _ _ s
  refine wpAny_bind (wpAny_field ho hd (x := .int i 0) rfl (wpAny_bind (wpAny_of_eq (a := b) rfl ?_)))
  simp only [Int.toNat_natCast, hx]
  refine wpAny_bind (wpAny_setField ho hd (by simp) (wpAny_bind (wpAny_mkInt (wpAny_pure ⟨_, rfl, wpAny_pure (hQ _ ⟨_, Heap.get?_update_self _ ho (Obj.isFreed_of_fields (Obj.data_mapFields hd _)), (Obj.cls_mapFields ..).trans hc, ?_⟩ (Heap.SameBut.update ..))⟩))))
  rw [Obj.data_mapFields hd]; simp [rawInt]
theorem nb_end {it : Addr} {i : Nat} {Q : Value → Shared → Prop} (hh : A.handled = none) (hit : BIt s.heap it b t i) (hx : b[i]? = none)
    (hE : ∀ h' e, Heap.ExtBut it s.heap h' → (∃ o, h'.get? e = some o ∧ o.cls = .type "StopIteration") → E (.ref e) { s with heap := h' }) : wpAny (model prog w) A (SmallTypes.nextOf (.ref it)) Q E s := by
  obtain ⟨o, ho, hc, hd⟩ := id hit
  unfold SmallTypes.nextOf
  refine wpAny_bind (wpAny_callSpecial?_slot (name := PySem.Str.ofString "__next__") (KBw.iter_typeIs hit) KBw.slot_next (wpAny_call_entry KBw.slot_next (KBw.iter_typeIs hit) KBw.entry_next ?_ (KBw.args_next _)))
  show wpAny _ _ (field (.ref it) 0 >>= _) _ _ s
  refine wpAny_bind (wpAny_field ho hd (x := .bytes b t) rfl ?_)
  refine bm_if_false rfl ?_
  show wpAny _ _ (field (.ref it) 1 >>= _) _ _ s
  refine wpAny_bind (wpAny_field ho hd (x := .int i 0) rfl (wpAny_bind (wpAny_of_eq (a := b) rfl ?_)))
  simp only [Int.toNat_natCast, hx]
  refine wpAny_bind (wpAny_rule (wpAny_bind (wpAny_setField ho hd (by simp) ?_)))
  show wpAny _ _ (newExc (.type "StopIteration") [] >>= _) _ _ _
  refine wpAny_bind ?_
  simp only [newExc, newTuple]
  refine wpAny_bind (wpAny_newObj_type ?_ (by size_fits))
  refine wpAny_bind (m := firstArgMember _ _) (wpAny_of_eq (a := Value.none) (by first | rfl | (simp only [firstArgMember]; rfl)) ?_)
  refine wpAny_newObj_type ?_ (by size_fits)
  simp only [raiseNew]
  refine wpAny_bind (wpAny_handled ?_)
  first | rw [show A.in1.handled = none from hh] | rw [hh]
  exact wpAny_bind (wpAny_pure (wpAny_throw (hE _ _ (((Heap.SameBut.update ..).extBut.push _).push _) ⟨_, Heap.get?_push_size _ rfl, rfl⟩)))
/-- what stands in a zip of two bytes that has given i pairs -/
structure ZipB (h : Heap) (z TI TO i1 i2 : Addr) (b1 b2 : Array UInt8) (t1 t2 : Tok) (f0 : Value) (i j : Nat) : Prop where
  z : IsZip h z TI TO f0
  TI : IsPair h TI (.ref i1) (.ref i2)
  TO : ∃ a b, IsPair h TO a b
  i1 : BIt h i1 b1 t1 i
  i2 : BIt h i2 b2 t2 j
structure ZApart (z TI TO i1 i2 : Addr) : Prop where
  TIz : TI ≠ z
  TOz : TO ≠ z
  i1z : i1 ≠ z
  i2z : i2 ≠ z
  TITO : TI ≠ TO
  TIi1 : TI ≠ i1
  TIi2 : TI ≠ i2
  TOi1 : TO ≠ i1
  TOi2 : TO ≠ i2
  i12 : i1 ≠ i2
variable {b1 b2 : Array UInt8} {t1 t2 : Tok} {z TI TO i1 i2 : Addr}
theorem ZipB.keep {h h' : Heap} {f0 : Value} {i j : Nat} (Z : ZipB h z TI TO i1 i2 b1 b2 t1 t2 f0 i j) (k : ∀ c ∈ [z, TI, TO, i1, i2], ∀ o, h.get? c = some o → h'.get? c = some o) : ZipB h' z TI TO i1 i2 b1 b2 t1 t2 f0 i j :=
  ⟨k z (by simp) _ Z.z, k TI (by simp) _ Z.TI, (let ⟨a, b, e⟩ := Z.TO; ⟨a, b, k TO (by simp) _ e⟩), Z.i1.at' (k i1 (by simp)), Z.i2.at' (k i2 (by simp))⟩
theorem ZipB.setZ {h h' : Heap} {f0 f1 : Value} {i j : Nat} (D : ZApart z TI TO i1 i2) (Z : ZipB h z TI TO i1 i2 b1 b2 t1 t2 f0 i j) (hz : IsZip h' z TI TO f1) (x : Heap.ExtBut z h h') : ZipB h' z TI TO i1 i2 b1 b2 t1 t2 f1 i j :=
  ⟨hz, x _ _ D.TIz Z.TI, (let ⟨a, b, e⟩ := Z.TO; ⟨a, b, x _ _ D.TOz e⟩), Z.i1.at' fun o => x _ o D.i1z, Z.i2.at' fun o => x _ o D.i2z⟩
theorem ZipB.old {h : Heap} {f0 : Value} {i j : Nat} (Z : ZipB h z TI TO i1 i2 b1 b2 t1 t2 f0 i j) : z < h.objs.size ∧ TO < h.objs.size ∧ i1 < h.objs.size ∧ i2 < h.objs.size :=
  ⟨Heap.lt_size Z.z, (let ⟨_, _, e⟩ := Z.TO; Heap.lt_size e), (let ⟨_, e, _⟩ := Z.i1; Heap.lt_size e), (let ⟨_, e, _⟩ := Z.i2; Heap.lt_size e)⟩
theorem zipB_item {Q : Value → Shared → Prop} {i : Nat} {c d : UInt8} (D : ZApart z TI TO i1 i2) (Z : ZipB s.heap z TI TO i1 i2 b1 b2 t1 t2 .none i i) (hx : b1[i]? = some c) (hy : b2[i]? = some d)
    (hQ : ∀ (h' : Heap) (T : Addr) (u v : Tok) (tk : Nat), ZipB h' z TI TO i1 i2 b1 b2 t1 t2 (rawInt T) (i + 1) (i + 1) → IsPair h' T (.int (c.toNat : Int) u) (.int (d.toNat : Int) v) → s.heap.objs.size ≤ T →
      (∀ c o, c ≠ z → c ≠ TO → c ≠ i1 → c ≠ i2 → s.heap.get? c = some o → h'.get? c = some o) → Q (.ref T) { s with heap := h', toks := tk }) :
    wpAny (model prog w) A (Builtin.«zip.__next__» ⟨[.ref z], []⟩) (fun fin s' => ∃ v, fin = .done (.ret v) ∧ Q v s') E s := by
  show wpAny _ _ (field (.ref z) 2 >>= _) _ _ _
  refine wpAny_bind (wpAny_field Z.z rfl (x := .bool false) rfl ?_)
  show wpAny _ _ (field (.ref z) 3 >>= _) _ _ _
  refine wpAny_bind (wpAny_field Z.z rfl (x := .ref TI) rfl (wpAny_bind (wpAny_seqItems Z.TI rfl ?_)))
  show wpAny _ _ (Builtin.SmallTypes.ownedTupleIsFree (.ref z) >>= _) _ _ _
  refine wpAny_bind ?_
  unfold Builtin.SmallTypes.ownedTupleIsFree
  refine wpAny_bind (wpAny_field Z.z rfl (x := .none) rfl (wpAny_pure ?_))
  simp only [if_true]
  refine wpAny_bind (wpAny_rule (wpAny_bind (wpAny_field Z.z rfl (x := .ref TO) rfl ?_)))
  refine wpAny_bind (wpAny_setField_rec Z.z (by simp) fun h₁ hz₁ hs₁ => ?_)
  have Z1 : ZipB h₁ z TI TO i1 i2 b1 b2 t1 t2 .ellipsis i i := Z.setZ D hz₁ hs₁.extBut
  refine wpAny_bind ?_
  simp only [List.zipIdx_cons, List.zipIdx_nil, List.forIn_cons, List.forIn_nil]
  refine wpAny_bind (wpAny_bind (wpAny_onRaise ?_))
  show wpAny _ _ (Builtin.SmallTypes.nextOf (.ref i1) >>= _) _ _ _
  obtain ⟨a, b, hTO⟩ := Z1.TO
  refine wpAny_bind (nb_item Z1.i1 hx fun h₂ h1 hs₂ => wpAny_pure ?_)
  have hTO₂ : IsPair h₂ TO a b := hs₂.extBut _ _ D.TOi1 hTO
  refine wpAny_bind (wpAny_seqItems hTO₂ rfl (wpAny_bind (wpAny_updateSeq_pair hTO₂ fun h₃ hTO₃ hs₃ => wpAny_bind (wpAny_letGo (wpAny_pure ?_)))))
  refine wpAny_bind (wpAny_bind (wpAny_onRaise ?_))
  show wpAny _ _ (Builtin.SmallTypes.nextOf (.ref i2) >>= _) _ _ _
  have h2 : BIt h₃ i2 b2 t2 i := (Z1.i2.at' fun o => hs₂.extBut _ o D.i12.symm).at' fun o => hs₃.extBut _ o D.TOi2.symm
  refine wpAny_bind (nb_item h2 hy fun h₄ h2' hs₄ => wpAny_pure ?_)
  have hTO₄ : IsPair h₄ TO (.int (c.toNat : Int) s.toks) b := hs₄.extBut _ _ D.TOi2 hTO₃
  refine wpAny_bind (wpAny_seqItems hTO₄ rfl (wpAny_bind (wpAny_updateSeq_pair hTO₄ fun h₅ hTO₅ hs₅ => wpAny_bind (wpAny_letGo (wpAny_pure (wpAny_pure ?_))))))
  replace hTO₅ : IsPair h₅ TO (.int (c.toNat : Int) s.toks) (.int (d.toNat : Int) (s.toks + 1)) := hTO₅
  have Z5 : ZipB h₅ z TI TO i1 i2 b1 b2 t1 t2 .ellipsis (i + 1) (i + 1) :=
    ⟨hs₅.extBut _ _ D.TOz.symm (hs₄.extBut _ _ D.i2z.symm (hs₃.extBut _ _ D.TOz.symm (hs₂.extBut _ _ D.i1z.symm Z1.z))),
     hs₅.extBut _ _ D.TITO (hs₄.extBut _ _ D.TIi2 (hs₃.extBut _ _ D.TITO (hs₂.extBut _ _ D.TIi1 Z1.TI))), ⟨_, _, hTO₅⟩,
     ((h1.at' fun o => hs₃.extBut _ o D.TOi1.symm).at' fun o => hs₄.extBut _ o D.i12).at' fun o => hs₅.extBut _ o D.TOi1.symm, h2'.at' fun o => hs₅.extBut _ o D.TOi2.symm⟩
  have hk₅ : ∀ c o, c ≠ z → c ≠ TO → c ≠ i1 → c ≠ i2 → s.heap.get? c = some o → h₅.get? c = some o := fun c o c1 c2 c3 c4 e =>
    hs₅.extBut _ _ c2 (hs₄.extBut _ _ c4 (hs₃.extBut _ _ c2 (hs₂.extBut _ _ c3 (hs₁.extBut _ _ c1 e))))
  refine wpAny_bind (wpAny_seqItems hTO₅ rfl (wpAny_bind (wpAny_newTuple ?_)))
  show wpAny _ _ (Builtin.SmallTypes.ownedTupleHandOut (.ref z) (.ref h₅.objs.size) >>= _) _ _ _
  refine wpAny_bind ?_
  unfold Builtin.SmallTypes.ownedTupleHandOut
  have hz₆ : IsZip (h₅.push { cls := .type "tuple", data := .seq #[.int (c.toNat : Int) s.toks, .int (d.toNat : Int) (s.toks + 1)] }) z TI TO .ellipsis := Heap.get?_push_of_some _ Z5.z
  refine wpAny_bind (wpAny_setField_rec hz₆ (by simp) fun h₇ hz₇ hs₇ => ?_)
  replace hz₇ : IsZip h₇ z TI TO (rawInt h₅.objs.size) := hz₇
  refine wpAny_setField_rec hz₇ (by simp) fun h₈ hz₈ hs₈ => ?_
  replace hz₈ : IsZip h₈ z TI TO (rawInt h₅.objs.size) := hz₈
  have up : ∀ c o, c ≠ z → h₅.get? c = some o → h₈.get? c = some o := fun c o c1 e => hs₈.extBut _ _ c1 (hs₇.extBut _ _ c1 (Heap.get?_push_of_some _ e))
  have hzs : h₅.objs.size ≠ z := Nat.ne_of_gt Z5.old.1
  have hsz : s.heap.objs.size ≤ h₅.objs.size := by rw [hs₅.1, hs₄.1, hs₃.1, hs₂.1, hs₁.1]; exact Nat.le_refl _
  exact wpAny_pure ⟨_, rfl, hQ h₈ h₅.objs.size s.toks (s.toks + 1) _ (Z5.setZ D hz₈ up) (hs₈.extBut _ _ hzs (hs₇.extBut _ _ hzs (Heap.get?_push_size _ rfl))) hsz fun c o c1 c2 c3 c4 e => up c o c1 (hk₅ c o c1 c2 c3 c4 e)⟩
theorem zipB_end {Q : Fin → Shared → Prop} {i : Nat} (hh : A.handled = none) (D : ZApart z TI TO i1 i2) (Z : ZipB s.heap z TI TO i1 i2 b1 b2 t1 t2 .none i i) (hend : b1[i]? = none ∨ b2[i]? = none)
    (hE : ∀ h' e tk, (∀ c o, c ≠ z → c ≠ TO → c ≠ i1 → c ≠ i2 → s.heap.get? c = some o → h'.get? c = some o) → (∃ o, h'.get? e = some o ∧ o.cls = .type "StopIteration") → E (.ref e) { s with heap := h', toks := tk }) :
    wpAny (model prog w) A (Builtin.«zip.__next__» ⟨[.ref z], []⟩) Q E s := by
  show wpAny _ _ (field (.ref z) 2 >>= _) _ _ _
  refine wpAny_bind (wpAny_field Z.z rfl (x := .bool false) rfl ?_)
  show wpAny _ _ (field (.ref z) 3 >>= _) _ _ _
  refine wpAny_bind (wpAny_field Z.z rfl (x := .ref TI) rfl (wpAny_bind (wpAny_seqItems Z.TI rfl ?_)))
  show wpAny _ _ (Builtin.SmallTypes.ownedTupleIsFree (.ref z) >>= _) _ _ _
  refine wpAny_bind ?_
  unfold Builtin.SmallTypes.ownedTupleIsFree
  refine wpAny_bind (wpAny_field Z.z rfl (x := .none) rfl (wpAny_pure ?_))
  simp only [if_true]
  refine wpAny_bind (wpAny_rule (wpAny_bind (wpAny_field Z.z rfl (x := .ref TO) rfl ?_)))
  refine wpAny_bind (wpAny_setField_rec Z.z (by simp) fun h₁ hz₁ hs₁ => ?_)
  have Z1 : ZipB h₁ z TI TO i1 i2 b1 b2 t1 t2 .ellipsis i i := Z.setZ D hz₁ hs₁.extBut
  refine wpAny_bind ?_
  simp only [List.zipIdx_cons, List.zipIdx_nil, List.forIn_cons, List.forIn_nil]
  refine wpAny_bind (wpAny_bind (wpAny_onRaise ?_))
  show wpAny _ _ (Builtin.SmallTypes.nextOf (.ref i1) >>= _) _ _ _
  obtain ⟨a, b, hTO⟩ := Z1.TO
  cases hx : b1[i]? with
  | none =>
    refine wpAny_bind (nb_end hh Z1.i1 hx fun h₂ e hs₂ he => ?_)
    obtain ⟨oe, hoe, hce⟩ := he
    have hz₂ : IsZip h₂ z TI TO .ellipsis := hs₂ _ _ D.i1z.symm Z1.z
    have hez : e ≠ z := fun x => by subst x; rw [hz₂] at hoe; cases hoe; simp at hce
    refine wpAny_setField_rec hz₂ (by simp) fun h₃ _ hs₃ => hE h₃ e _ (fun c o c1 _ c3 _ x => hs₃.extBut _ _ c1 (hs₂ _ _ c3 (hs₁.extBut _ _ c1 x))) ⟨oe, hs₃.extBut _ _ hez hoe, hce⟩
  | some c =>
    have hy : b2[i]? = none := by rcases hend with h | h; rw [hx] at h; cases h; exact h
    refine wpAny_bind (nb_item Z1.i1 hx fun h₂ h1 hs₂ => wpAny_pure ?_)
    have hTO₂ : IsPair h₂ TO a b := hs₂.extBut _ _ D.TOi1 hTO
    refine wpAny_bind (wpAny_seqItems hTO₂ rfl (wpAny_bind (wpAny_updateSeq_pair hTO₂ fun h₃ hTO₃ hs₃ => wpAny_bind (wpAny_letGo (wpAny_pure ?_)))))
    refine wpAny_bind (wpAny_bind (wpAny_onRaise ?_))
    show wpAny _ _ (Builtin.SmallTypes.nextOf (.ref i2) >>= _) _ _ _
    have h2 : BIt h₃ i2 b2 t2 i := (Z1.i2.at' fun o => hs₂.extBut _ o D.i12.symm).at' fun o => hs₃.extBut _ o D.TOi2.symm
    refine wpAny_bind (nb_end hh h2 hy fun h₄ e hs₄ he => ?_)
    obtain ⟨oe, hoe, hce⟩ := he
    have hz₄ : IsZip h₄ z TI TO .ellipsis := hs₄ _ _ D.i2z.symm (hs₃.extBut _ _ D.TOz.symm (hs₂.extBut _ _ D.i1z.symm Z1.z))
    have hez : e ≠ z := fun x => by subst x; rw [hz₄] at hoe; cases hoe; simp at hce
    refine wpAny_setField_rec hz₄ (by simp) fun h₅ _ hs₅ => hE h₅ e _ (fun c o c1 c2 c3 c4 x => hs₅.extBut _ _ c1 (hs₄ _ _ c4 (hs₃.extBut _ _ c2 (hs₂.extBut _ _ c3 (hs₁.extBut _ _ c1 x))))) ⟨oe, hs₅.extBut _ _ hez hoe, hce⟩
theorem walksZipB (hh : A.handled = none) (D : ZApart z TI TO i1 i2) :
    WalksU prog w A z [z, TI, TO, i1, i2] [z, TO, i1, i2] (min b1.size b2.size) (fun i vals => ∃ c d u v, b1[i]? = some c ∧ b2[i]? = some d ∧ vals = #[.int (c.toNat : Int) u, .int (d.toNat : Int) v])
      (fun i h => ZipB h z TI TO i1 i2 b1 b2 t1 t2 .none i i) (fun i T h => ZipB h z TI TO i1 i2 b1 b2 t1 t2 (rawInt T) (i + 1) (i + 1) ∧ T ≠ z ∧ T ≠ TO ∧ T ≠ i1 ∧ T ≠ i2) where
  sub := fun c hc => by simp at hc ⊢; rcases hc with rfl | rfl | rfl | rfl <;> simp
  frame := fun i h h' Z k => Z.keep k
  item := fun i s Q E hi Z hQ => by
    have hix : i < b1.size := Nat.lt_of_lt_of_le hi (Nat.min_le_left ..)
    have hiy : i < b2.size := Nat.lt_of_lt_of_le hi (Nat.min_le_right ..)
    have hT : s.TypeIs (.ref z) "zip" := ⟨_, Z.z, rfl⟩
    unfold pyNext
    refine wpAny_bind (wpAny_attempt (wpAny_callSpecial?_slot (name := PySem.Str.ofString "__next__") hT F.slot_zip_next (wpAny_call_entry F.slot_zip_next hT F.entry_zip_next
      (zipB_item D Z (Array.getElem?_eq_getElem hix) (Array.getElem?_eq_getElem hiy) fun h' T u v tk Z' hP hsz hk => wpAny_pure ?_) (F.args_zip_next_1 _))))
    have o := Z.old
    have ap : ∀ {c : Addr}, c < s.heap.objs.size → T ≠ c := fun hc e => Nat.lt_irrefl _ (Nat.lt_of_lt_of_le hc (e ▸ hsz))
    exact hQ T _ h' tk ⟨_, _, u, v, Array.getElem?_eq_getElem hix, Array.getElem?_eq_getElem hiy, rfl⟩ ⟨_, hP, rfl, _, rfl⟩
      ⟨Z', ap o.1, ap o.2.1, ap o.2.2.1, ap o.2.2.2⟩ fun c o hc e => hk c o (fun x => hc (by simp [x])) (fun x => hc (by simp [x])) (fun x => hc (by simp [x])) (fun x => hc (by simp [x])) e
  go := fun elts k pos i T s Q E hm hQ => wpAny_letOwnedTupleGo_zip hm.1.z fun h' hz' hs' => hQ h' (hm.1.setZ D hz' hs'.extBut) fun c o hc e => hs'.extBut _ _ (fun x => hc (by simp [x])) e
  apart := fun i T h hm hT => by
    simp at hT
    rcases hT with rfl | rfl | rfl | rfl
    · exact hm.2.1 rfl
    · exact hm.2.2.1 rfl
    · exact hm.2.2.2.1 rfl
    · exact hm.2.2.2.2 rfl
  done := fun s Q E Z hQ => by
    have hT : s.TypeIs (.ref z) "zip" := ⟨_, Z.z, rfl⟩
    have hend : b1[min b1.size b2.size]? = none ∨ b2[min b1.size b2.size]? = none := by
      rcases Nat.le_total b1.size b2.size with h | h
      · left; rw [Nat.min_eq_left h]; simp
      · right; rw [Nat.min_eq_right h]; simp
    unfold pyNext
    refine wpAny_bind (wpAny_attempt (wpAny_callSpecial?_slot (name := PySem.Str.ofString "__next__") hT F.slot_zip_next (wpAny_call_entry F.slot_zip_next hT F.entry_zip_next
      (zipB_end (by first | exact hh | rfl) D Z hend fun h' e tk hk he => ?_) (F.args_zip_next_1 _))))
    obtain ⟨o, ho, hc⟩ := he
    refine wpAny_bind (wpAny_isInstance (T := "StopIteration") (b := true) ⟨o, ho, hc⟩ isSubtype_stop ?_)
    exact wpAny_pure (hQ _ _ fun c o hc e => hk c o (fun x => hc (by simp [x])) (fun x => hc (by simp [x])) (fun x => hc (by simp [x])) (fun x => hc (by simp [x])) e)
  self := fun i s Q E Z hQ => wpAny_pyIter_zip Z.z hQ
end
end Mine
end
section
open PySem PySem.W PyProof.Rows PySem.Calls
open PySem.Sem (wp)
set_option Elab.async false
set_option maxRecDepth 100000
namespace Mine
open Builtin
/-! ### a comprehension over a zip of two bytes -/
inductive AreInts : List Value → List Int → Prop
  | nil : AreInts [] []
  | cons {k : Int} {t : Tok} {vs : List Value} {ks : List Int} : AreInts vs ks → AreInts (.int k t :: vs) (k :: ks)
theorem AreInts.snoc {vs : List Value} {ks : List Int} {k : Int} {t : Tok} (h : AreInts vs ks) : AreInts (vs ++ [.int k t]) (ks ++ [k]) := by
  induction h with
  | nil => exact .cons .nil
  | cons _ ih => exact .cons ih
theorem AreInts.length {vs : List Value} {ks : List Int} (h : AreInts vs ks) : vs.length = ks.length := by
  induction h with
  | nil => rfl
  | cons _ ih => simp [ih]
section
variable {prog : Program} {w : World} {A : Around} {E : Value → Shared → Prop} {s : Shared} {R : Result → Shared → Prop}
variable {b1 b2 : Array UInt8} {t1 t2 : Tok} {z TI TO i1 i2 : Addr} {f : Int → Int → Int}
noncomputable def zipInts (f : Int → Int → Int) (b1 b2 : Array UInt8) : List Int := List.zipWith f (KBw.bInts b1) (KBw.bInts b2)
theorem zipInts_length : (zipInts f b1 b2).length = min b1.size b2.size := by simp [zipInts, KBw.ints_length]
theorem zipInts_get {i : Nat} {c d : UInt8} (h1 : b1[i]? = some c) (h2 : b2[i]? = some d) : (zipInts f b1 b2)[i]? = some (f c.toNat d.toNat) := by
  simp [zipInts, List.getElem?_zipWith, KBw.ints_get h1, KBw.ints_get h2]
theorem take_succ_get {α : Type} {l : List α} {i : Nat} {x : α} (h : l[i]? = some x) : l.take (i + 1) = l.take i ++ [x] := by
  rw [List.take_succ, h]; rfl
theorem zip_compLoop {elt iter : Expr} {xa xb : Str} {pa pb pt : Pos} {kt : Nat} {scope : Scope} {pos : Pos} {D : Addr} {cenv : Env} {m : Str → Option Value}
    (hh : A.handled = none) (P : ZApart z TI TO i1 i2) (hab : xa ≠ xb) (hxa : cenv.kindOf xa = some .local) (hxb : cenv.kindOf xb = some .local)
    (hp : (cenv.scope.kind == .class || (cenv.scope.kind == .module && cenv.locals != cenv.globals)) = false)
    (hZ : ZipB s.heap z TI TO i1 i2 b1 b2 t1 t2 .none 0 0) (hD : s.heap.PlainList D #[]) (hn : s.heap.Ns cenv.locals m)
    (hDw : D ∉ [z, TI, TO, i1, i2]) (hCw : cenv.locals ∉ [z, TI, TO, i1, i2]) (hDC : D ≠ cenv.locals) (hsz : min b1.size b2.size ≤ sizeLine)
    (helt : ∀ c d u v s₂ m₂ E', 0 ≤ c → c < 256 → 0 ≤ d → d < 256 → s₂.heap.Ns cenv.locals m₂ → m₂ xa = some (.int c u) → m₂ xb = some (.int d v) →
      wpAny (model prog w) A (eval elt cenv) (fun y s₃ => (∃ t, y = .int (f c d) t) ∧ Keeps s₂ s₃) E' s₂)
    (hR : ∀ h' tk m' ys, h'.Ns cenv.locals m' → h'.PlainList D ys → AreInts ys.toList (zipInts f b1 b2) → (∀ b o, b ∉ [cenv.locals, D, z, TO, i1, i2] → s.heap.get? b = some o → h'.get? b = some o) → R (.ok .next) { s with heap := h', toks := tk }) :
    codeAny (model prog w) A (.compLoop (.ListComp elt [⟨.Tuple [.Name xa pa, .Name xb pb] kt pt, iter, [], 0⟩] scope pos) 0 (.ref z) (.ref D) cenv) R s := by
  have W := fun A' (hA : Around.handled A' = none) => walksZipB (prog := prog) (w := w) (A := A') (b1 := b1) (b2 := b2) (t1 := t1) (t2 := t2) hA P
  refine codeAny_loop rfl (fun k s' => ∃ i h' tk m' ys, s' = { s with heap := h', toks := tk } ∧ ZipB h' z TI TO i1 i2 b1 b2 t1 t2 .none i i ∧ h'.PlainList D ys ∧ h'.Ns cenv.locals m' ∧ AreInts ys.toList ((zipInts f b1 b2).take i) ∧
    i ≤ min b1.size b2.size ∧ k = min b1.size b2.size + 1 - i ∧ (∀ b o, b ∉ [cenv.locals, D, z, TO, i1, i2] → s.heap.get? b = some o → h'.get? b = some o)) (fun k s' hI => ?_) (min b1.size b2.size + 1)
    ⟨0, s.heap, s.toks, m, #[], rfl, hZ, hD, hn, .nil, Nat.zero_le _, rfl, fun _ _ _ e => e⟩
  obtain ⟨i, H, tk, m', ys, rfl, Z, hl, hns, hA, hi, rfl, hk⟩ := hI
  show wpAny _ _ ((compTurn (.ListComp elt [⟨.Tuple [.Name xa pa, .Name xb pb] kt pt, iter, [], 0⟩] scope pos) 0 (.ref z) (.ref D) cenv).onRaise (fun x => do noteFrame x cenv; theTreesLotGoes x)) _ _ _
  refine wpAny_noted ?_
  rw [compTurn_list1]
  refine wpAny_bind (wpAny_standAt (wpAny_bind ?_))
  have hCz : cenv.locals ∉ [z, TO, i1, i2] := fun h => hCw (by simp at h ⊢; rcases h with h | h | h | h <;> simp [h])
  have hDz : D ∉ [z, TO, i1, i2] := fun h => hDw (by simp at h ⊢; rcases h with h | h | h | h <;> simp [h])
  have out : ∀ {b : Addr}, b ∉ [cenv.locals, D, z, TO, i1, i2] → b ≠ cenv.locals ∧ b ≠ D ∧ b ∉ [z, TO, i1, i2] := fun h => by
    simp at h ⊢; exact ⟨h.1, h.2.1, h.2.2⟩
  rcases Nat.lt_or_ge i (min b1.size b2.size) with hlt | hge
  · refine (W _ hh).item i _ _ _ hlt Z fun T vals h₁ tk₁ hv hT hmid hk₁ => ?_
    obtain ⟨c, d, u, v, hc, hd, rfl⟩ := hv
    refine wpAny_bind ((W _ hh).go _ _ _ i T _ _ _ hmid fun h₂ Z₂ hk₂ => ?_)
    have hT₂ : h₂.IsTuple T #[.int (c.toNat : Int) u, .int (d.toNat : Int) v] := let ⟨o, e, r⟩ := hT; ⟨o, hk₂ _ o ((W _ hh).apart i T _ hmid) e, r⟩
    refine wpAny_bind (wpAny_assign_Tuple hh hT₂ rfl rfl fun h₃ hx₃ => ?_)
    have old₃ : ∀ b o, h₂.get? b = some o → h₃.get? b = some o := fun b o e => hx₃ b o (Nat.ne_of_lt (Heap.lt_size e)) e
    show wpAny _ _ (do holding [.int (d.toNat : Int) v] (assign (.Name xa pa) cenv (.int (c.toNat : Int) u)); holding [] (assign (.Name xb pb) cenv (.int (d.toNat : Int) v)); pure ()) _ _ _
    refine wpAny_bind (wpAny_holding (wpAny_assign_Name (wpAny_storeName_local hxa (hns.at' fun o e => old₃ _ o (hk₂ _ o hCz (hk₁ _ o hCz e))) (fun h₄ hn₄ hs₄ => ?_) hp)))
    refine wpAny_bind (wpAny_holding (wpAny_assign_Name (wpAny_storeName_local hxb hn₄ (fun h₅ hn₅ hs₅ => wpAny_pure ?_) hp)))
    have up : ∀ b o, b ≠ cenv.locals → b ∉ [z, TO, i1, i2] → H.get? b = some o → h₅.get? b = some o := fun b o hb hw e => hs₅.extBut b o hb (hs₄.extBut b o hb (old₃ b o (hk₂ b o hw (hk₁ b o hw e))))
    have Z₅ : ZipB h₅ z TI TO i1 i2 b1 b2 t1 t2 .none (i + 1) (i + 1) := Z₂.keep fun c hc o e => hs₅.extBut c o (fun x => hCw (x ▸ hc)) (hs₄.extBut c o (fun x => hCw (x ▸ hc)) (old₃ c o e))
    have hc1 := c.toNat_lt
    have hd1 := d.toNat_lt
    refine wpAny_bind (wpAny_bind (wpAny_mono (helt (c.toNat : Int) (d.toNat : Int) u v _ _ _ (by omega) (by omega) (by omega) (by omega) hn₅ (by simp only [if_neg hab, if_true]) (by simp only [if_true])) (fun y s₆ h₆ => ?_) fun _ _ e => e))
    obtain ⟨⟨t, rfl⟩, h₆, tk₆, rfl, hk₆⟩ := h₆
    have hl₆ : h₆.PlainList D ys := hl.at fun o e => hk₆ _ o (up D o hDC hDz e)
    have hys : ys.size ≤ sizeLine := by
      have := hA.length
      simp at this
      omega
    refine wpAny_bind (wpAny_list_append_plain (hsz := hys) hl₆ fun h₇ hl₇ hs₇ => wpAny_pure (wpAny_pure ⟨rfl, ?_⟩))
    refine ⟨min b1.size b2.size + 1 - (i + 1), by omega, i + 1, h₇, tk₆, _, _, rfl, ?_, hl₇, (hn₅.keeps hk₆).sameBut hs₇ (Ne.symm hDC), ?_, hlt, rfl, fun b o hb e => ?_⟩
    · exact Z₅.keep fun c hc o e => hs₇.extBut c o (fun x => hDw (x ▸ hc)) (hk₆ c o e)
    · rw [take_succ_get (zipInts_get hc hd), Array.toList_push]
      exact hA.snoc
    · obtain ⟨o1, o2, o3⟩ := out hb
      exact hs₇.extBut b o o2 (hk₆ b o (up b o o1 o3 (hk b o hb e)))
  · have hin : i = min b1.size b2.size := Nat.le_antisymm hi hge
    refine (W _ hh).done _ _ _ (hin ▸ Z) fun h₁ tk₁ hk₁ => wpAny_pure ?_
    rw [hin, List.take_of_length_le (by rw [zipInts_length]; exact Nat.le_refl _)] at hA
    exact hR h₁ tk₁ m' ys (hns.at' fun o e => hk₁ _ o hCz e) (hl.at fun o e => hk₁ _ o hDz e) hA fun b o hb e => hk₁ b o (out hb).2.2 (hk b o hb e)
theorem ListComp_zipB {env : Env} {elt iter : Expr} {xa xb : Str} {pa pb pt : Pos} {kt : Nat} {scope : Scope} {pos : Pos} {Q : Value → Shared → Prop} (hh : A.handled = none) (hab : xa ≠ xb)
    (hfree : ∀ y ∈ scope.names, y.2 ≠ .free) (hcell : ∀ y ∈ scope.names, y.2 ≠ .cell) (hkind : scope.kind = .function)
    (hnames : ∀ y ∈ scope.names, y.2 = .local → scope.names.lookup y.1 = some .local) (hxa : scope.names.lookup xa = some .local) (hxb : scope.names.lookup xb = some .local)
    (h : wpAny (model prog w) A (eval iter env) (fun xv s₂ => ∃ z TI TO i1 i2 b1 b2 t1 t2, xv = .ref z ∧ ZApart z TI TO i1 i2 ∧ ZipB s₂.heap z TI TO i1 i2 b1 b2 t1 t2 .none 0 0 ∧ min b1.size b2.size ≤ sizeLine ∧
      (∀ C c d u v s₃ m₃ E', 0 ≤ c → c < 256 → 0 ≤ d → d < 256 → s₃.heap.Ns C m₃ → m₃ xa = some (.int c u) → m₃ xb = some (.int d v) →
        wpAny (model prog w) A (eval elt (compEnv scope C env)) (fun y s₄ => (∃ t, y = .int (f c d) t) ∧ Keeps s₃ s₄) E' s₃) ∧
      (∀ D h' tk ys, s₂.heap.get? D = none → h'.PlainList D ys → AreInts ys.toList (zipInts f b1 b2) → (∀ b o, b ∉ [z, TO, i1, i2] → s₂.heap.get? b = some o → h'.get? b = some o) → Q (.ref D) { s₂ with heap := h', toks := tk })) E s)
    (hs : ∀ x, foldedSetIterable iter env x = pure x := by intro _; rfl) :
    wpAny (model prog w) A (eval (.ListComp elt [⟨.Tuple [.Name xa pa, .Name xb pb] kt pt, iter, [], 0⟩] scope pos) env) Q E s := by
  refine wpAny_ListComp hfree hkind hnames (wpAny_mono h (fun xv s₂ h₂ => ?_) fun _ _ e => e) hs
  obtain ⟨z, TI, TO, i1, i2, b1, b2, t1, t2, rfl, P, Z, hsz, helt, hQ⟩ := h₂
  refine wpAny_pyIter_zip Z.z ?_
  refine wpAny_newObj_type (wpAny_newFunctionEnv hcell (by intro y hy; simp at hy) (fun h₁ hns₁ hsb₁ => ?_) hkind)
  dsimp only at hns₁ hsb₁ ⊢
  generalize hH2 : s₂.heap.push { cls := .type "list", dict := none, data := .seq ([] : List Value).toArray } = H2 at hns₁ hsb₁ ⊢
  have hC : H2.objs.size = s₂.heap.objs.size + 1 := by rw [← hH2, Heap.size_push]
  have hDC : s₂.heap.objs.size ≠ H2.objs.size := by rw [hC]; exact Nat.ne_of_lt (Nat.lt_succ_self _)
  have old : ∀ b o, s₂.heap.get? b = some o → h₁.get? b = some o := fun b o e => hsb₁.extBut b o (by rw [hC]; exact Nat.ne_of_lt (Nat.lt_succ_of_lt (Heap.lt_size e))) (Heap.get?_push_of_some _ (hH2 ▸ Heap.get?_push_of_some _ e))
  have hacc : h₁.PlainList s₂.heap.objs.size #[] := ⟨_, hsb₁.extBut _ _ hDC (Heap.get?_push_of_some _ (hH2 ▸ Heap.get?_push_size _ rfl))⟩
  have olds : ∀ b ∈ [z, TI, TO, i1, i2], b < s₂.heap.objs.size := fun b hb => by
    have o := Z.old
    have oTI := Heap.lt_size Z.TI
    simp at hb
    rcases hb with rfl | rfl | rfl | rfl | rfl
    · exact o.1
    · exact oTI
    · exact o.2.1
    · exact o.2.2.1
    · exact o.2.2.2
  have fresh : ∀ a, s₂.heap.objs.size ≤ a → s₂.heap.get? a = none := fun a ha => by
    cases e : s₂.heap.get? a with
    | none => rfl
    | some o' => exact absurd (Heap.lt_size e) (Nat.not_lt.mpr ha)
  have Z₁ : ZipB h₁ z TI TO i1 i2 b1 b2 t1 t2 .none 0 0 := Z.keep fun c _ o e => old c o e
  have loop : ∀ s₃ : Shared, s₃ = { s₂ with heap := h₁, toks := s₂.toks + ([] : List (Str × Value)).length } →
      codeAny (model prog w) A (.compLoop (.ListComp elt [⟨.Tuple [.Name xa pa, .Name xb pb] kt pt, iter, [], 0⟩] scope pos) 0 (.ref z) (.ref s₂.heap.objs.size) (compEnv scope H2.objs.size env))
        (fun r s' => ∃ m, s'.heap.Ns H2.objs.size m ∧ ∀ h', Heap.SameBut H2.objs.size s'.heap h' →
          match r with | .ok _ => Q (.ref s₂.heap.objs.size) { s' with heap := h' } | .error x => wpAny (model prog w) A (passOn "comprehension.variables-let-go" x (compEnv scope H2.objs.size env)) Q E { s' with heap := h' }) s₃ := by
    rintro s₃ rfl
    refine zip_compLoop (f := f) (cenv := compEnv scope H2.objs.size env) hh P hab hxa hxb (by simp [compEnv, hkind]) Z₁ hacc hns₁ (fun hm => Nat.lt_irrefl _ (olds _ hm)) (fun hm => by have := olds _ hm; simp only [compEnv] at this; rw [hC] at this; exact Nat.lt_irrefl _ (Nat.lt_of_succ_lt this)) hDC hsz
      (fun c d u v s₄ m₄ E' a1 a2 a3 a4 hn4 h4 h5 => helt _ c d u v s₄ m₄ E' a1 a2 a3 a4 hn4 h4 h5) fun h' tk m' ys hn hl hA hk => ?_
    refine ⟨m', hn, fun h'' hs'' => ?_⟩
    refine hQ _ h'' tk ys (fresh _ (Nat.le_refl _)) (hl.extBut hs''.extBut hDC) hA fun b o hb e => ?_
    have hbl := Heap.lt_size e
    have hb1 : b ≠ H2.objs.size := by rw [hC]; exact Nat.ne_of_lt (Nat.lt_succ_of_lt hbl)
    have hb2 : b ≠ s₂.heap.objs.size := Nat.ne_of_lt hbl
    have hb3 : b ∉ [(compEnv scope H2.objs.size env).locals, s₂.heap.objs.size, z, TO, i1, i2] := fun hm => by
      rcases List.mem_cons.mp hm with h | hm
      · exact hb1 h
      · rcases List.mem_cons.mp hm with h | hm
        · exact hb2 h
        · exact hb hm
    exact hs''.extBut b o hb1 (hk b o hb3 (old b o e))
  exact codeAny_compStart_list (loop _ rfl) (wpAny_pyIter_zip Z₁.z (loop _ rfl))
end
end Mine
end
section
open PySem PySem.W PyProof.Rows PySem.Calls
open PySem.Sem (wp)
set_option Elab.async false
set_option maxRecDepth 100000
namespace Mine
open Builtin
noncomputable abbrev bit0 (b : Array UInt8) (t : Tok) : Obj := { cls := .type "bytes_iterator", data := .fields #[.bytes b t, .int 0 0] }
noncomputable abbrev zb2 (h : Heap) (b1 b2 : Array UInt8) (t1 t2 : Tok) : Heap := (h.push (bit0 b1 t1)).push (bit0 b2 t2)
noncomputable abbrev zb3 (h : Heap) (b1 b2 : Array UInt8) (t1 t2 : Tok) : Heap := (zb2 h b1 b2 t1 t2).push { cls := .type "tuple", data := .seq #[.ref h.objs.size, .ref (h.push (bit0 b1 t1)).objs.size] }
noncomputable abbrev zb4 (h : Heap) (b1 b2 : Array UInt8) (t1 t2 : Tok) : Heap := (zb3 h b1 b2 t1 t2).push { cls := .type "tuple", data := .seq #[.none, .none] }
noncomputable abbrev zb5 (h : Heap) (b1 b2 : Array UInt8) (t1 t2 : Tok) : Heap := (zb4 h b1 b2 t1 t2).push { cls := .type "zip", data := .fields #[.none, .bool false, .bool false, .ref (zb2 h b1 b2 t1 t2).objs.size, .ref (zb3 h b1 b2 t1 t2).objs.size] }
theorem meets_zipB (b1 b2 : Array UInt8) (t1 t2 : Tok) :
    Meets (Builtin.«zip.__new__» ⟨[.type "zip", .bytes b1 t1, .bytes b2 t2], []⟩) (fun _ R s => R (.ok (.ret (.ref (zb4 s.heap b1 b2 t1 t2).objs.size))) { s with heap := zb5 s.heap b1 b2 t1 t2 }) :=
  .of_wp fun prog w A R s h => by
    obtain ⟨hp, g, d, tk, os⟩ := s
    have hsub := sub_zip
    unfold Builtin.«zip.__new__»
    refine wpAny_bind (wpAny_of_eq (a := (.type "zip", [.bytes b1 t1, .bytes b2 t2])) ?_ ?_)
    · show (isSubtype (.type "zip") (.type "zip") >>= _) = _
      rw [hsub]; rfl
    show wpAny _ _ (SmallTypes.iterAll [.bytes b1 t1, .bytes b2 t2] >>= _) _ _ _
    refine wpAny_bind ?_
    unfold SmallTypes.iterAll
    refine wpAny_bind ?_
    simp only [List.forIn_cons, List.forIn_nil]
    refine wpAny_bind (wpAny_bind (wpAny_holding (KBw.pyIter_bytes (wpAny_pure ?_))))
    refine wpAny_bind (wpAny_bind (wpAny_holding (KBw.pyIter_bytes (wpAny_pure (wpAny_pure (wpAny_pure ?_))))))
    have two : (2 : Nat) ≤ sizeLine := by decide +kernel
    refine wpAny_bind (wpAny_newTuple (hsz := two) (wpAny_bind (wpAny_newTuple (hsz := two) (wpAny_bind ?_))))
    unfold SmallTypes.newRecord
    refine wpAny_newObj_type (wpAny_pure ⟨_, rfl, h⟩) ?_
    show (5 : Nat) ≤ _
    decide +kernel
section
variable {prog : Program} {w : World} {A : Around} {E : Value → Shared → Prop} {s : Shared} {b1 b2 : Array UInt8} {t1 t2 : Tok}
theorem call_zipB {Q : Value → Shared → Prop}
    (h : ∀ z TI TO i1 i2 h', ZApart z TI TO i1 i2 → ZipB h' z TI TO i1 i2 b1 b2 t1 t2 .none 0 0 → (∀ c ∈ [z, TI, TO, i1, i2], s.heap.objs.size ≤ c) → (∀ c o, s.heap.get? c = some o → h'.get? c = some o) → Q (.ref z) { s with heap := h' }) :
    wpAny (model prog w) A (call (.type "zip") [.bytes b1 t1, .bytes b2 t2]) Q E s := by
  refine callType_new F.called_zip (by decide) (F.typeCall_zip_2 _ _) (F.newCall_zip_2 _ _) (fun obj => F.args_object_init_3 obj _ _) F.entry_zip_new (meets_zipB b1 b2 t1 t2) ?_
  have y1 : (s.heap.push (bit0 b1 t1)).objs.size = s.heap.objs.size + 1 := Heap.size_push ..
  have y2 : (zb2 s.heap b1 b2 t1 t2).objs.size = s.heap.objs.size + 2 := by rw [Heap.size_push, y1]
  have y3 : (zb3 s.heap b1 b2 t1 t2).objs.size = s.heap.objs.size + 3 := by rw [Heap.size_push, y2]
  have y4 : (zb4 s.heap b1 b2 t1 t2).objs.size = s.heap.objs.size + 4 := by rw [Heap.size_push, y3]
  have g5 : (zb5 s.heap b1 b2 t1 t2).get? (zb4 s.heap b1 b2 t1 t2).objs.size = some _ := Heap.get?_push_size _ rfl
  have g4 : (zb5 s.heap b1 b2 t1 t2).get? (zb3 s.heap b1 b2 t1 t2).objs.size = some _ := Heap.get?_push_of_some _ (Heap.get?_push_size _ rfl)
  have g3 : (zb5 s.heap b1 b2 t1 t2).get? (zb2 s.heap b1 b2 t1 t2).objs.size = some _ := Heap.get?_push_of_some _ (Heap.get?_push_of_some _ (Heap.get?_push_size _ rfl))
  have g2 : (zb5 s.heap b1 b2 t1 t2).get? (s.heap.push (bit0 b1 t1)).objs.size = some _ := Heap.get?_push_of_some _ (Heap.get?_push_of_some _ (Heap.get?_push_of_some _ (Heap.get?_push_size _ rfl)))
  have g1 : (zb5 s.heap b1 b2 t1 t2).get? s.heap.objs.size = some _ := Heap.get?_push_of_some _ (Heap.get?_push_of_some _ (Heap.get?_push_of_some _ (Heap.get?_push_of_some _ (Heap.get?_push_size _ rfl))))
  refine ⟨⟨_, g5, rfl⟩, h _ _ _ _ _ _ ?_ ⟨g5, g3, ⟨_, _, g4⟩, ⟨_, g1, rfl, rfl⟩, ⟨_, g2, rfl, rfl⟩⟩ (fun c hc => ?_) fun c o e => Heap.get?_push_of_some _ (Heap.get?_push_of_some _ (Heap.get?_push_of_some _ (Heap.get?_push_of_some _ (Heap.get?_push_of_some _ e))))⟩
  · rw [y1, y2, y3, y4]
    constructor <;> (intro e; simp at e)
  · rw [y1, y2, y3, y4] at hc
    simp at hc
    rcases hc with rfl | rfl | rfl | rfl | rfl <;> simp
end
end Mine
end
section
open PySem PySem.W PyProof.Rows PySem.Calls
set_option Elab.async false
set_option maxRecDepth 100000
namespace Mine
open Builtin
/-- the octets of x, the greatest first -/
noncomputable def bigOct (k : Nat) (x : Int) : List Int := (KTBy.little k x).reverse
theorem bigOct_length (k : Nat) (x : Int) : (bigOct k x).length = k := by rw [bigOct, List.length_reverse, KTBy.little_length]
section
variable {prog : Program} {w : World} {A : Around} {E : Value → Shared → Prop} {s : Shared} {x : Int} {k : Nat} {t u v : Tok}
theorem args_tbk (a b c d : Value) : argsOk "int.to_bytes" ⟨[a, b], [(PySem.Str.ofString "byteorder", c), (PySem.Str.ofString "signed", d)]⟩ := by unfold argsOk; kernel_rfl
theorem toBytesKw {Q : Value → Shared → Prop} (hk : k ≤ 72) (h0 : 0 ≤ x) (h1 : x < 256 ^ k) (h : ∀ (b : Array UInt8) t' k', KBw.bInts b = bigOct k x → Q (.bytes b t') { s with toks := k' }) :
    wpAny (model prog w) A (call (.builtin "int.to_bytes") [.int x t, .int (k : Int) u] [(PySem.Str.ofString "byteorder", .str (PySem.Str.ofString "big") v), (PySem.Str.ofString "signed", .bool false)]) Q E s := by
  refine PyProof.Rows.wpAny_call_entry_kw KTBy.slot (typeIs_int s x t) KTBy.entry ?_ (args_tbk _ _ _ _)
  have hb := KTBy.bits_le (k := k) rfl h0 h1
  show wpAny _ _ (Builtin.Int.intOfSelf (.int x t) >>= fun y => _) _ _ s
  refine wpAny_bind (wpAny_of_eq (a := x) rfl ?_)
  show wpAny _ _ (Builtin.Int.intBindNamed "to_bytes" ["length", "byteorder", "signed"] 0 2 [.int (k : Int) u] [(PySem.Str.ofString "byteorder", .str (PySem.Str.ofString "big") v), (PySem.Str.ofString "signed", .bool false)] >>= fun l => _) _ _ s
  refine wpAny_bind (wpAny_of_eq (a := [some (.int (k : Int) u), some (.str (PySem.Str.ofString "big") v), some (.bool false)]) (by kernel_rfl) ?_)
  show wpAny _ _ (Builtin.Int.intIndex "int.to_bytes" (.int (k : Int) u) >>= fun n => _) _ _ s
  refine wpAny_bind (wpAny_of_eq (a := (k : Int)) rfl ?_)
  refine bm_if_false (by show (decide ((k : Int) < -(2 ^ 63 : Int)) || decide ((k : Int) ≥ 2 ^ 63)) = false; rw [decide_eq_false (show ¬ ((k : Int) < -(2 ^ 63 : Int)) by omega), decide_eq_false (show ¬ ((k : Int) ≥ 2 ^ 63) by omega)]; rfl) ?_
  refine wpAny_bind (wpAny_of_eq (a := PySem.Str.ofString "big") (by kernel_rfl) ?_)
  refine wpAny_bind (wpAny_of_eq (a := false) (by first | rfl | kernel_rfl) ?_)
  refine wpAny_bind (wpAny_of_eq (a := false) (by kernel_rfl) ?_)
  refine wpAny_ite_false (decide_eq_false (show ¬ ((k : Int) < 0) by omega)) ?_
  refine wpAny_ite_false (decide_eq_false (show ¬ ((k : Int) > 2 ^ 63 - 1 - 33) by omega)) ?_
  refine wpAny_ite_false (decide_eq_false (show ¬ ((k : Int) > (sizeLine : Int)) by rw [sizeLine_eq]; omega)) ?_
  refine bm_if_false (by show (decide (x < 0) && !false) = false; rw [decide_eq_false (show ¬ x < 0 by omega)]; rfl) ?_
  refine bm_if_false (by show (_ && decide ((Builtin.Int.intBits x : Int) > 8 * (k : Int))) = false; rw [decide_eq_false (show ¬ ((Builtin.Int.intBits x : Int) > 8 * (k : Int)) by omega), Bool.and_false]) ?_
  refine wpAny_bind (wpAny_mkBytes (wpAny_pure ⟨_, rfl, h _ _ _ ?_⟩) (by show (List.reverse (KTBy.low x (Int.toNat (k : Int)))).length ≤ sizeLine; rw [List.length_reverse, KTBy.low_length, Int.toNat_natCast, sizeLine_eq]; omega))
  show (List.map (fun c : UInt8 => ((c.toNat : Nat) : Int)) (List.reverse (KTBy.low x (Int.toNat (k : Int))))) = bigOct k x
  rw [Int.toNat_natCast, List.map_reverse, KTBy.low_ints h0 h1, ← KTBy.little_eq, bigOct]
end
end Mine
end
section
open PySem PySem.W PyProof.Rows PySem.Calls
set_option Elab.async false
set_option maxRecDepth 100000
namespace Mine
open Builtin
section
variable {prog : Program} {w : World} {M : Model} {A : Around} {E : Value → Shared → Prop} {s : Shared} {env : Env} {x : Addr} {b : Array UInt8} {t u : Tok}
theorem grownW {n : Nat} {Q : Value → Shared → Prop} (hn : n < 2 ^ 2048) (h : Q (.int (n : Int) s.toks) { s with toks := s.toks + 1 }) : wpAny M A (mkIntGrown (n : Int)) Q E s := by
  unfold mkIntGrown
  have hl : ¬ ((n : Int).natAbs.log2 ≥ bitsLine) := by
    rw [Int.natAbs_natCast]
    have hb : bitsLine = 134217728 := by first | rfl | decide
    by_cases hz : n = 0
    · subst hz
      rw [hb]
      decide
    · have h1 := (Nat.log2_lt hz).mpr hn
      omega
  rw [if_neg hl]
  exact wpAny_mkInt h
theorem valLt {b : Array UInt8} (hl : b.size ≤ 256) : b.toList.foldl (fun (acc : Nat) (b : UInt8) => acc * 256 + b.toNat) 0 < 2 ^ 2048 := by
  have h1 := KFB.fold_lt b.toList 0
  rw [Nat.zero_add, Nat.one_mul, Array.length_toList] at h1
  have h2 : 256 ^ b.size ≤ 256 ^ 256 := Nat.pow_le_pow_right (by decide) hl
  have h3 : (256 : Nat) ^ 256 = 2 ^ 2048 := by decide +kernel
  omega
theorem fromKw {P : Fin → Shared → Prop} (hl : b.size ≤ 256) (h : P (.done (.ret (.int (KFB.value (KBw.bInts b)) s.toks))) { s with toks := s.toks + 1 }) :
    wpAny M A (Builtin.«int.from_bytes» ⟨[.type "int", .bytes b t], [(PySem.Str.ofString "byteorder", .str (PySem.Str.ofString "big") u), (PySem.Str.ofString "signed", .bool false)]⟩) P E s := by
  have hv : ((b.toList.foldl (fun (acc : Nat) (b : UInt8) => acc * 256 + b.toNat) 0 : Nat) : Int) = KFB.value (KBw.bInts b) := KFB.fold_cast b.toList 0
  have hn := valLt hl
  unfold Builtin.«int.from_bytes»
  refine wpAny_bind (wpAny_of_eq (a := true) KFB.type_int ?_)
  refine bm_if_false rfl ?_
  refine wpAny_bind (wpAny_of_eq (a := true) F.conv_sub_int ?_)
  refine bm_if_false rfl ?_
  refine wpAny_bind (wpAny_of_eq (a := [some (.bytes b t), some (.str (PySem.Str.ofString "big") u), some (.bool false)]) (by kernel_rfl) ?_)
  refine wpAny_bind (wpAny_of_eq (a := PySem.Str.ofString "big") (by kernel_rfl) ?_)
  refine wpAny_bind (wpAny_of_eq (a := false) (by first | rfl | kernel_rfl) ?_)
  refine wpAny_bind (wpAny_of_eq (a := false) (by kernel_rfl) ?_)
  refine wpAny_bind (wpAny_of_eq (a := b) rfl ?_)
  show wpAny _ _ (mkIntGrown (b.toList.foldl (fun (acc : Int) (b : UInt8) => acc * 256 + (b.toNat : Int)) ((0 : Nat) : Int)) >>= fun v => _) _ _ _
  rw [KFB.foldI_eq]
  refine wpAny_bind (grownW hn ?_)
  rw [hv]
  refine bm_if_true (by decide +kernel) ?_
  exact wpAny_bind (wpAny_pure (wpAny_pure h))
theorem fromPos {P : Fin → Shared → Prop} (hl : b.size ≤ 256) (h : P (.done (.ret (.int (KFB.value (KBw.bInts b)) s.toks))) { s with toks := s.toks + 1 }) :
    wpAny M A (Builtin.«int.from_bytes» ⟨[.type "int", .bytes b t, .str (PySem.Str.ofString "big") u], []⟩) P E s := by
  have hv : ((b.toList.foldl (fun (acc : Nat) (b : UInt8) => acc * 256 + b.toNat) 0 : Nat) : Int) = KFB.value (KBw.bInts b) := KFB.fold_cast b.toList 0
  have hn := valLt hl
  unfold Builtin.«int.from_bytes»
  refine wpAny_bind (wpAny_of_eq (a := true) KFB.type_int ?_)
  refine bm_if_false rfl ?_
  refine wpAny_bind (wpAny_of_eq (a := true) F.conv_sub_int ?_)
  refine bm_if_false rfl ?_
  refine wpAny_bind (wpAny_of_eq (a := [some (.bytes b t), some (.str (PySem.Str.ofString "big") u), none]) (by kernel_rfl) ?_)
  refine wpAny_bind (wpAny_of_eq (a := PySem.Str.ofString "big") (by kernel_rfl) ?_)
  refine wpAny_bind (wpAny_of_eq (a := false) rfl ?_)
  refine wpAny_bind (wpAny_of_eq (a := false) (by kernel_rfl) ?_)
  refine wpAny_bind (wpAny_of_eq (a := b) rfl ?_)
  show wpAny _ _ (mkIntGrown (b.toList.foldl (fun (acc : Int) (b : UInt8) => acc * 256 + (b.toNat : Int)) ((0 : Nat) : Int)) >>= fun v => _) _ _ _
  rw [KFB.foldI_eq]
  refine wpAny_bind (grownW hn ?_)
  rw [hv]
  refine bm_if_true (by decide +kernel) ?_
  exact wpAny_bind (wpAny_pure (wpAny_pure h))
theorem callFbKw {Q : Value → Shared → Prop} (ho : KFB.StandsAt x s.heap) (hl : b.size ≤ 256)
    (h : Q (.int (KFB.value (KBw.bInts b)) s.toks) { s with toks := s.toks + 1 }) :
    wpAny (model prog w) A (call (.ref x) [.bytes b t] [(PySem.Str.ofString "byteorder", .str (PySem.Str.ofString "big") u), (PySem.Str.ofString "signed", .bool false)]) Q E s := by
  refine wpAny_call (codeAny_of_tree ?_)
  show wpAny _ A.in1 (callAny (.ref x) ⟨[.bytes b t], [(PySem.Str.ofString "byteorder", .str (PySem.Str.ofString "big") u), (PySem.Str.ofString "signed", .bool false)]⟩) _ _ s
  simp only [callAny]
  refine wpAny_bind (wpAny_load ho ?_)
  simp only [KFB.bound, show (Value.type "builtin_function_or_method" == Value.type "method" || Value.type "builtin_function_or_method" == Value.type "builtin_function_or_method" || Value.type "builtin_function_or_method" == Value.type "method-wrapper") = true by decide, if_true]
  refine bm_if_true (by decide) ?_
  refine wpAny_bind (wpAny_of_eq (a := ()) (by first | kernel_rfl | rfl) ?_)
  refine wpAny_bind (wpAny_pure (wpAny_pure ?_))
  exact ⟨KFB.quiet_fb, codeAny_builtin KFB.entry_fb (fromKw hl h)⟩
theorem callFbPos {Q : Value → Shared → Prop} (ho : KFB.StandsAt x s.heap) (hl : b.size ≤ 256)
    (h : Q (.int (KFB.value (KBw.bInts b)) s.toks) { s with toks := s.toks + 1 }) :
    wpAny (model prog w) A (call (.ref x) [.bytes b t, .str (PySem.Str.ofString "big") u]) Q E s := KFB.call_of ho (fun z => fromPos hl z) h
theorem callWith_fieldsKw {pos : Pos} {e : Expr} {rest : List Expr} {kws : List Keyword} {Q : Value → Shared → Prop}
    (h : wpAny M A (spliced (backTo pos (starEach (e :: rest) env))) (fun vs s₁ => wpAny M A (evalAll ((backToKw pos (keywordEach kws env)).map (·.2)))
      (fun kvs s₂ => KFB.StandsAt x s₂.heap ∧ wpAny M A (call (.ref x) vs (((backToKw pos (keywordEach kws env)).filterMap (·.1)).zip kvs)) Q E s₂) E s₁) E s)
    (he : backTo pos (starEach (e :: rest) env) = (false, eval e env) :: backTo pos (starEach rest env) := by rfl)
    (hplain : (backTo pos (starEach (e :: rest) env)).any (·.1) = false := by rfl)
    (hall : (backToKw pos (keywordEach kws env)).all (·.1.isSome) = true := by rfl)
    (hkw : (backToKw pos (keywordEach kws env)).any (·.1.isNone) = false := by rfl) :
    wpAny M A (callWith pos (.ref x) [] (backTo pos (starEach (e :: rest) env)) (backToKw pos (keywordEach kws env))) Q E s := by
  unfold callWith
  refine wpAny_bind (wpAny_holding (wpAny_mono (Q := fun a s₁ => KFB.StandsAt x s₁.heap ∧ wpAny M A (call (.ref x) a.pos a.kw) Q E s₁) ?_ (fun a s₁ h₁ => wpAny_bind (wpAny_standAt ?_)) fun _ _ x => x))
  · rw [he] at h ⊢
    exact PyProof.Rows.evalArgs_kwB hall h
  · simp only [hplain, hkw, Bool.or_false]
    refine wpAny_bind (m := keeperOf (.ref x)) ?_
    unfold keeperOf
    refine wpAny_bind (wpAny_load h₁.1 ?_)
    simp only [KFB.bound]
    refine bm_if_true (by decide) ?_
    refine wpAny_of_eq (a := Keeper.machine) (by rfl) ?_
    exact wpAny_bind (wpAny_mono h₁.2 (fun r s₂ hr => wpAny_bind (wpAny_holding (wpAny_point (wpAny_pure hr)))) fun _ _ x => x)
end
end Mine
end
section
open PySem PySem.W PyProof.Rows PySem.Calls PySem.Spec
set_option Elab.async false
set_option maxRecDepth 100000
namespace Mine
open Builtin
theorem gen_no_bytes : typeLookup (.type "generator") "__bytes__" = pure none := by rw [typeLookup_type, builtinLookup_eq_fast]; kernel_rfl
theorem gen_no_index : typeLookup (.type "generator") "__index__" = pure none := by rw [typeLookup_type, builtinLookup_eq_fast]; kernel_rfl
theorem gen_no_buffer : typeLookup (.type "generator") "__buffer__" = pure none := by rw [typeLookup_type, builtinLookup_eq_fast]; kernel_rfl
theorem gen_no_len : typeLookup (.type "generator") "__len__" = pure none := by rw [typeLookup_type, builtinLookup_eq_fast]; kernel_rfl
theorem gen_no_hint : typeLookup (.type "generator") "__length_hint__" = pure none := by rw [typeLookup_type, builtinLookup_eq_fast]; kernel_rfl
section
variable {prog : Program} {w : World} {A : Around} {E : Value → Shared → Prop} {I S : Addr} {fp wr : List Addr} {G : Array GenState → Array GenState → Prop} {P : Nat → Value → Prop} {St : Nat → Shared → Prop} {ns : List Int}
theorem movedS {s s' s'' : Shared} (g : ∀ a b c, G a b → G b c → G a c) (x : Moved wr G s s') (y : Moved (S :: wr) G s' s'') : Moved (S :: wr) G s s'' :=
  Moved.trans g (Moved.mono x fun _ hb => List.mem_cons_of_mem _ hb) y
theorem gen_bytes_loop {R : Result → Shared → Prop} (W : WalksS prog w A.in1 I fp wr G ns.length P St) (hP : ∀ i v, P i v → ∃ k t, v = .int k t ∧ ns[i]? = some k) (hr : ∀ k ∈ ns, 0 ≤ k ∧ k < 256) (hz : ns.length ≤ sizeLine) (hS : S ∉ fp) :
    ∀ (k i : Nat) (s : Shared), ns.length - i = k → i ≤ ns.length → St i s → s.heap.get? S = some { cls := .type "bytearray", data := .bytearray (byteArr (ns.take i)) } →
      (∀ s' t, Moved (S :: wr) G s s' → R (.ok (.ret (.bytes (byteArr ns) t))) s') →
      codeAny (model prog w) A (.builtin "bytes.__new__.loop" ⟨[.type "bytes", .ref I, .ref S], []⟩) R s := by
  have hSw : S ∉ wr := fun h => hS (W.sub _ h)
  intro k
  induction k with
  | zero =>
    intro i s hk hle hst hb hR
    have hin : i = ns.length := by omega
    subst hin
    refine codeAny_builtin F.bm_entry_loop ?_
    rw [Around.under_plainId F.bm_plain_loop _]
    show wpAny _ A.in1 (pyNext (.ref I) >>= _) _ _ s
    refine wpAny_bind (W.done s _ _ hst fun s' hm => ?_)
    have hb' := hm.heap _ _ hSw hb
    refine wpAny_bind ?_
    unfold Builtin.Bytes.payload Builtin.Bytes.payload?
    refine wpAny_bind (wpAny_bind (wpAny_load hb' ?_))
    refine wpAny_pure (wpAny_pure ?_)
    rw [List.take_length]
    refine wpAny_bind (wpAny_mkBytes ?_ (by rw [byteArr_size]; exact hz))
    show wpAny _ _ (if (Value.type "bytes" == Value.type "bytes") = true then _ else _) _ _ _
    refine bm_if_true (by decide) ?_
    have fin := hR _ s'.toks (Moved.then_heap (Moved.mono hm fun _ h => List.mem_cons_of_mem S h) (h' := s'.heap) (Nat.le_succ s'.toks) fun _ _ _ e => e)
    first
      | exact wpAny_pure fin
      | exact wpAny_bind (wpAny_pure (wpAny_pure fin))
  | succ k ih =>
    intro i s hk hle hst hb hR
    have hlt : i < ns.length := by omega
    refine codeAny_builtin F.bm_entry_loop ?_
    rw [Around.under_plainId F.bm_plain_loop _]
    show wpAny _ A.in1 (pyNext (.ref I) >>= _) _ _ s
    refine wpAny_bind (W.item i s _ _ hlt hst fun v s' hPv st' hm => ?_)
    obtain ⟨n, t, rfl, hn⟩ := hP i v hPv
    obtain ⟨h0, h1⟩ := hr n (List.mem_of_getElem? hn)
    have hb' := hm.heap _ _ hSw hb
    refine wpAny_bind (wpAny_holding (wpAny_of_eq (rfl : asIndex (.int n t) = pure n) ?_))
    refine wpAny_bind (wpAny_letGo ?_)
    refine bm_if_false (by simp only [Bool.or_eq_false_iff, decide_eq_false_iff_not]; omega) ?_
    refine wpAny_bind ?_
    show wpAny _ _ (updateBytearray S (·.push n.toNat.toUInt8)) _ _ _
    unfold updateBytearray
    refine wpAny_bind (wpAny_load hb' ?_)
    show wpAny _ _ (update S (Obj.mapBytearray (·.push n.toNat.toUInt8)) >>= fun _ => lookBehind S) _ _ _
    refine wpAny_bind (wpAny_update hb' ?_)
    have hS₂ : (s'.heap.update S (Obj.mapBytearray (·.push n.toNat.toUInt8))).get? S = some { cls := .type "bytearray", data := .bytearray (byteArr (ns.take (i + 1))) } := by
      rw [byteArr_take hn]
      exact Heap.get?_update_self (Obj.mapBytearray (·.push n.toNat.toUInt8)) hb' rfl
    have other : ∀ b o, b ≠ S → s'.heap.get? b = some o → (s'.heap.update S (Obj.mapBytearray (·.push n.toNat.toUInt8))).get? b = some o := fun b o hne e => (Heap.get?_update_other _ _ (Ne.symm hne)).trans e
    refine wpAny_lookBehind hS₂ ?_ ?_
    · show (if (byteArr (ns.take (i + 1))).size > sizeLine then some "bytearray:memory" else none) = none
      rw [if_neg]
      rw [byteArr_size, List.length_take]
      omega
    · have hm2 : Moved (S :: wr) G s { s' with heap := s'.heap.update S (Obj.mapBytearray (·.push n.toNat.toUInt8)) } :=
        Moved.then_heap (Moved.mono hm fun _ h => List.mem_cons_of_mem S h) (Nat.le_refl _) fun b o hnb e => other b o (fun q => hnb (q ▸ List.mem_cons_self ..)) e
      refine wpAny_pure ⟨plainId_quiet F.bm_plain_loop _, ih (i + 1) _ (by omega) hlt (W.frame _ s' _ _ st' (Nat.le_refl _) fun b hbf o e => other b o (fun q => hS (q ▸ hbf)) e) hS₂ fun s3 t' hm3 => ?_⟩
      exact hR s3 t' (Moved.trans W.gtrans hm2 hm3)
theorem gen_bytes_new {Q : Value → Shared → Prop} {s : Shared} (W : WalksS prog w A.in1 I fp wr G ns.length P St) (hT : ∀ i s, St i s → s.TypeIs (.ref I) "generator") (hP : ∀ i v, P i v → ∃ k t, v = .int k t ∧ ns[i]? = some k) (hr : ∀ k ∈ ns, 0 ≤ k ∧ k < 256) (hz : ns.length ≤ sizeLine)
    (hst : St 0 s) (hfp : ∀ b ∈ fp, b < s.heap.objs.size) {ol : Obj} {fs : Array Value} (hol : s.heap.get? I = some ol) (hod : ol.data = .fields fs)
    (hQ : ∀ s' t, Moved wr G s s' → Q (.bytes (byteArr ns) t) s') :
    codeAny (model prog w) A (.call (.builtin "bytes.__new__") ⟨[.type "bytes", .ref I], []⟩) (wants Q E) s := by
  refine codeAny_of_tree ?_
  show wpAny _ A.in1 (do checkBuiltinCall "bytes.__new__" ⟨[.type "bytes", .ref I], []⟩; again (.builtin "bytes.__new__" ⟨[.type "bytes", .ref I], []⟩)) _ _ s
  refine wpAny_bind (wpAny_of_eq (F.bm_newCall _) (wpAny_pure ⟨plainId_quiet F.bm_plain _, codeAny_builtin F.bm_entry ?_⟩))
  rw [Around.under_plainId F.bm_plain _]
  have hTI := hT 0 s hst
  unfold Builtin.«bytes.__new__»
  refine wpAny_bind (wpAny_of_eq (a := true) rfl ?_)
  refine bm_if_false rfl ?_
  refine wpAny_bind (wpAny_of_eq F.bm_sub ?_)
  refine bm_if_false rfl ?_
  refine wpAny_bind (wpAny_of_eq (F.bm_bind _) ?_)
  refine wpAny_bind (wpAny_of_eq (a := ()) rfl ?_)
  refine wpAny_bind (wpAny_of_eq (a := ()) rfl ?_)
  refine bm_if_false rfl ?_
  refine wpAny_bind (wpAny_specialOf hTI gen_no_bytes ?_)
  refine wpAny_bind (wpAny_bind ?_)
  show wpAny _ _ (load I >>= _) _ _ _
  refine wpAny_bind (wpAny_load hol ?_)
  rw [hod]
  refine wpAny_pure (wpAny_pure ?_)
  refine bm_if_false rfl ?_
  refine wpAny_bind (wpAny_specialOf hTI gen_no_index ?_)
  refine bm_if_true rfl ?_
  first
    | show wpAny _ _ (Builtin.Bytes.buffer? "bytes.__new__" (.ref I) true >>= _) _ _ _
    | (refine wpAny_bind ?_; show wpAny _ _ (Builtin.Bytes.buffer? "bytes.__new__" (.ref I) true >>= _) _ _ _)
  refine wpAny_bind ?_
  unfold Builtin.Bytes.buffer?
  refine wpAny_bind (wpAny_specialOf hTI gen_no_buffer ?_)
  refine wpAny_bind (wpAny_specialOf hTI gen_no_buffer ?_)
  refine wpAny_pure ?_
  refine wpAny_bind (wpAny_tryCatch (W.self 0 s _ _ hst ?_))
  refine wpAny_bind (wpAny_holding ?_)
  unfold Builtin.Bytes.lengthHint
  refine wpAny_bind (wpAny_specialOf hTI gen_no_len ?_)
  dsimp only
  refine bm_if_false (by decide +kernel) ?_
  refine bm_if_false rfl ?_
  refine wpAny_bind (wpAny_specialOf hTI gen_no_hint ?_)
  refine wpAny_pure ?_
  refine wpAny_bind ?_
  unfold Builtin.Bytes.newBytearray
  refine wpAny_newObj_type ?_ (Nat.zero_le _)
  have main := gen_bytes_loop (prog := prog) (w := w) (A := A) (R := wants Q E) (S := s.heap.objs.size) W hP hr hz (fun h => Nat.lt_irrefl _ (hfp _ h)) ns.length 0 { s with heap := s.heap.push { cls := .type "bytearray", data := .bytearray #[] } } rfl (Nat.zero_le _)
    (W.frame 0 s _ _ hst (Nat.le_refl _) fun b hb o e => Heap.get?_push_of_some _ e) (Heap.get?_push_size _ rfl) fun s' t hm => hQ s' t ⟨fun b o hb e => hm.heap b o (fun q => by
      rcases List.mem_cons.mp q with rfl | q
      · exact Nat.lt_irrefl _ (Heap.lt_size e)
      · exact hb q) (Heap.get?_push_of_some _ e), hm.gens, hm.drawn, hm.os, hm.toks⟩
  first
    | exact wpAny_pure ⟨plainId_quiet F.bm_plain_loop _, main⟩
    | exact wpAny_pure (wpAny_pure ⟨plainId_quiet F.bm_plain_loop _, main⟩)
/-- bytes(generator) -/
theorem call_bytes_gen {Q : Value → Shared → Prop} {s : Shared} {n : Nat} (W : WalksS prog w A.in1.in1 I fp wr G n P St) (hn : ns.length = n) (hT : ∀ i s, St i s → s.TypeIs (.ref I) "generator") (hP : ∀ i v, P i v → ∃ k t, v = .int k t ∧ ns[i]? = some k) (hr : ∀ k ∈ ns, 0 ≤ k ∧ k < 256) (hz : ns.length ≤ sizeLine)
    (hst : St 0 s) (hfp : ∀ b ∈ fp, b < s.heap.objs.size) {ol : Obj} {fs : Array Value} (hol : s.heap.get? I = some ol) (hod : ol.data = .fields fs)
    (hQ : ∀ s' t, Moved wr G s s' → Q (.bytes (byteArr ns) t) s') : wpAny (model prog w) A (call (.type "bytes") [.ref I]) Q E s := by
  subst hn
  refine callType_codes (Q₁ := fun obj s₁ => s₁.TypeIs obj "bytes" ∧ Q obj s₁) F.bm_called (F.bm_typeCall _) F.entry_object_init
    (gen_bytes_new W hT hP hr hz hst hfp hol hod fun s' t hm => ⟨PySem.W.typeIs_bytes _ _ _, hQ s' t hm⟩) fun obj s₁ h₁ => ?_
  exact ⟨h₁.1, F.args_object_init_2 obj _, object_init_meets F.bm_called.init.lookup F.bm_called.made (by decide) prog w A.in1 _ s₁ ⟨h₁.1, rfl, h₁.2⟩⟩
end
end Mine
end
section
open PySem PySem.W PyProof.Rows PySem.Calls PySem.Spec
set_option Elab.async false
set_option maxRecDepth 100000
namespace Mine
section
variable {prog : Program} {w : World} {A : Around} {s : Shared} {env : Env} {R : Result → Shared → Prop}
/-- one turn of a for -/
theorem codeA_forTurn {target : Expr} {it : Value} {body orelse : List Stmt}
    (h : wpAny (model prog w) A (pyNext it) (fun r s₁ => match r with
      | none => wpAny (model prog w) A (execs orelse env) (fun f s₃ => R (.ok f) s₃) (notedBy (model prog w) A env fun e s' => R (.error e) s') s₁
      | some v => wpAny (model prog w) A (assign target env v) (fun _ s₂ => wpAny (model prog w) A (execs body env) (fun f s₃ => match f with
          | .next | .cont => codeAny (model prog w) A (.forLoop target it body orelse env) R s₃
          | .brk => R (.ok .next) s₃
          | .ret v => R (.ok (.ret v)) s₃) (notedBy (model prog w) A env fun e s' => R (.error e) s') s₂) (notedBy (model prog w) A env fun e s' => R (.error e) s') s₁) (notedBy (model prog w) A env fun e s' => R (.error e) s') s)
    (ht : ∀ v, letOwnedTupleGo target it v = pure () := by intro _; rfl) : codeAny (model prog w) A (.forLoop target it body orelse env) R s := by
  refine codeAny_of_tree ?_
  rw [Around.under_of_weight rfl]
  show wpAny _ _ ((forTurn target it body orelse env).onRaise (fun x => do noteFrame x env; theTreesLotGoes x)) _ _ s
  refine wpAny_noted ?_
  simp only [forTurn]
  refine wpAny_bind (wpAny_standAt (wpAny_bind (wpAny_onRaise (wpAny_mono h (fun r s₁ h₁ => ?_) fun _ _ h' => wpAny_standAt h'))))
  cases r with
  | none => exact wpAny_pure ⟨rfl, codeAny_block h₁⟩
  | some v =>
    refine wpAny_bind (wpAny_of_eq (ht v) ?_)
    refine wpAny_bind (wpAny_mono h₁ (fun _ s₂ h₂ => wpAny_bind (wpAny_mono h₂ (fun f s₃ h₃ => ?_) fun _ _ h' => h')) fun _ _ h' => h')
    cases f with
    | next => exact wpAny_pure ⟨rfl, h₃⟩
    | cont => exact wpAny_pure ⟨rfl, h₃⟩
    | brk => exact wpAny_pure h₃
    | ret v => exact wpAny_pure h₃
end

theorem codeA_push {M : Model} {A : Around} {g d os} {h : Heap} {c : Code} {tk : Nat} {o : Obj} {R : Result → Shared → Prop} (hf : o.isFreed = false)
    (go : ∀ h', Kept h h' → h'.get? h.objs.size = some o → h'.objs.size = h.objs.size + 1 → codeAny M A c R ⟨h', g, d, tk, os⟩) : codeAny M A c R ⟨h.push o, g, d, tk, os⟩ :=
  pushGo (P := fun h' => codeAny M A c R ⟨h', g, d, tk, os⟩) go hf
end Mine
end
section
open PySem PySem.W PyProof.Rows PySem.Calls PySem.Spec
set_option Elab.async false
set_option maxRecDepth 100000
namespace Mine
open Builtin
theorem bj_slot : Slot "bytes" "join" "bytes.join" :=
  .of (owner := "bytes") (n := "join") (by rw [typeLookup_type, builtinLookup_eq_fast]; kernel_rfl) (by decide +kernel) (by decide +kernel) (by decide +kernel)
    (by first | exact .inl (by decide +kernel) | exact .inr (by decide +kernel)) (by rw [isSubtype_type]; kernel_rfl)
theorem bj_entry : entryFor table "bytes.join" = some Builtin.«bytes.join» := by first | exact entryFor_of_fast (by kernel_rfl) | exact entryFor_of_tree (by kernel_rfl)
theorem bj_args (a b : Value) : argsOk "bytes.join" ⟨[a, b], []⟩ := by unfold argsOk; kernel_rfl
theorem bj_attrs : PlainAttrs "bytes" := ⟨⟨"bytes.__getattribute__", by rw [typeLookup_type, builtinLookup_eq_fast]; kernel_rfl, by decide +kernel⟩, by rw [typeLookup_type, builtinLookup_eq_fast]; kernel_rfl⟩
theorem bj_type : typeOf (.builtin "bytes.join") = pure (.type "method_descriptor") := by show builtinType _ = _; rw [builtinType_eq_fast]; kernel_rfl
theorem bj_method {M : Model} {A : Around} {E : Value → Shared → Prop} {s : Shared} {b : Array UInt8} {t : Tok} {pl : Sem Bool} {Q : Value × List Value → Shared → Prop} (h : Q (.builtin "bytes.join", [.bytes b t]) s) : wpAny M A (getMethod (.bytes b t) (PySem.Str.ofString "join") pl) Q E s :=
  getMethod_builtin (PySem.W.typeIs_bytes _ _ _) bj_attrs bj_slot bj_type (fun _ e => nomatch e) h
section
variable {prog : Program} {w : World} {A : Around} {E : Value → Shared → Prop} {s : Shared} {l : Addr} {Q : Value → Shared → Prop} {n : Nat}
theorem by_take {id : String} {M : Model} {y : Array UInt8} {t : Tok} {fl : Int} {Q : Option (Array UInt8 × Option Value) → Shared → Prop} (hQ : Q (some (y, none)) s) : wpAny M A (Bytes.takeBufferQuiet? id (.bytes y t) fl) Q E s := by
  unfold Bytes.takeBufferQuiet?
  refine wpAny_bind (wpAny_attempt ?_)
  unfold Bytes.takeBuffer?
  refine wpAny_bind (wpAny_of_eq (by_special lk_bytes_buffer) ?_)
  show wpAny _ _ (Bytes.slotIsOwn (.bytes y t) "__buffer__" >>= fun b => _) _ _ _
  refine wpAny_bind ?_
  unfold Bytes.slotIsOwn
  refine wpAny_bind (wpAny_of_eq (by_special lk_bytes_buffer) ?_)
  show wpAny _ _ (if (!("bytes.__buffer__" : String).endsWith ("." ++ "__buffer__")) = true then _ else _) _ _ _
  refine bm_if_false (by decide +kernel) ?_
  rw [show ("bytes.__buffer__" : String).dropRight (("__buffer__" : String).length + 1) = "bytes" by decide +kernel]
  refine wpAny_isInstance (PySem.W.typeIs_bytes _ _ _) F.bm_sub ?_
  refine bm_if_false rfl ?_
  refine wpAny_bind (wpAny_of_eq (by_special lk_bytes_buffer) ?_)
  refine wpAny_bind (by_buffer ?_)
  exact wpAny_pure (wpAny_pure hQ)
theorem wpAny_forIn2 {β : Type} {M : Model} {A : Around} {E : Value → Shared → Prop} {s : Shared} {b : β} {f : Nat → β → Sem (ForInStep β)} {Q : β → Shared → Prop}
    (h : wpAny M A (f 0 b) (fun r s₁ => match r with | .done b => Q b s₁ | .yield b => wpAny M A (f 1 b) (fun r s₂ => match r with | .done b => Q b s₂ | .yield b => Q b s₂) E s₁) E s) : wpAny M A (forIn [:2] b f) Q E s := by
  rw [Std.Legacy.Range.forIn_eq_forIn_range', show List.range' ([:2] : Std.Legacy.Range).start ([:2] : Std.Legacy.Range).size ([:2] : Std.Legacy.Range).step = [0, 1] from rfl, List.forIn_cons]
  refine wpAny_bind (wpAny_mono h (fun r s₁ h₁ => ?_) fun _ _ x => x)
  cases r with
  | done b => exact wpAny_pure h₁
  | yield b =>
    dsimp only at h₁ ⊢
    rw [List.forIn_cons]
    refine wpAny_bind (wpAny_mono h₁ (fun r s₂ h₂ => ?_) fun _ _ x => x)
    cases r with
    | done b => exact wpAny_pure h₂
    | yield b => exact wpAny_pure h₂
theorem wpAny_forIn3 {β : Type} {M : Model} {A : Around} {E : Value → Shared → Prop} {s : Shared} {b : β} {f : Nat → β → Sem (ForInStep β)} {Q : β → Shared → Prop}
    (h : wpAny M A (f 0 b) (fun r s₁ => match r with | .done b => Q b s₁ | .yield b => wpAny M A (f 1 b) (fun r s₂ => match r with | .done b => Q b s₂ | .yield b => wpAny M A (f 2 b) (fun r s₃ => match r with | .done b => Q b s₃ | .yield b => Q b s₃) E s₂) E s₁) E s) : wpAny M A (forIn [:3] b f) Q E s := by
  rw [Std.Legacy.Range.forIn_eq_forIn_range', show List.range' ([:3] : Std.Legacy.Range).start ([:3] : Std.Legacy.Range).size ([:3] : Std.Legacy.Range).step = [0, 1, 2] from rfl, List.forIn_cons]
  refine wpAny_bind (wpAny_mono h (fun r s₁ h₁ => ?_) fun _ _ x => x)
  cases r with
  | done b => exact wpAny_pure h₁
  | yield b =>
    dsimp only at h₁ ⊢
    rw [List.forIn_cons]
    refine wpAny_bind (wpAny_mono h₁ (fun r s₂ h₂ => ?_) fun _ _ x => x)
    cases r with
    | done b => exact wpAny_pure h₂
    | yield b =>
      dsimp only at h₂ ⊢
      rw [List.forIn_cons]
      refine wpAny_bind (wpAny_mono h₂ (fun r s₃ h₃ => ?_) fun _ _ x => x)
      cases r with
      | done b => exact wpAny_pure h₃
      | yield b => exact wpAny_pure h₃
theorem join1 {b1 : Array UInt8} {t t1 : Tok} (hl : s.heap.get? l = some (W.listOf #[.bytes b1 t1] n)) (h : Q (.bytes b1 t1) s) : wpAny (model prog w) A (call (.builtin "bytes.join") [.bytes #[] t, .ref l]) Q E s := by
  refine wpAny_call_entry bj_slot (PySem.W.typeIs_bytes _ _ _) bj_entry ?_ (bj_args _ _)
  have hT : s.TypeIs (.ref l) "list" := ⟨_, hl, rfl⟩
  show wpAny _ _ (Bytes.joinItems (.ref l) >>= _) _ _ s
  refine wpAny_bind ?_
  unfold Bytes.joinItems
  refine wpAny_bind (wpAny_typeOf hT ?_)
  refine bm_if_true (by decide) ?_
  refine wpAny_pure ?_
  refine wpAny_bind ?_
  show wpAny _ _ (load l >>= _) _ _ _
  refine wpAny_bind (wpAny_load hl ?_)
  refine wpAny_pure ?_
  dsimp only
  refine bm_if_true (by decide) ?_
  refine wpAny_bind (wpAny_typeOf (PySem.W.typeIs_bytes _ _ _) ?_)
  refine bm_if_true (by decide) ?_
  refine wpAny_bind (wpAny_rule ?_)
  first
    | exact wpAny_pure ⟨_, rfl, h⟩
    | exact wpAny_bind (wpAny_pure (wpAny_pure ⟨_, rfl, h⟩))
theorem join2 {b1 b2 : Array UInt8} {t t1 t2 : Tok} (hl : s.heap.get? l = some (W.listOf #[.bytes b1 t1, .bytes b2 t2] n)) (hz : b1.size + b2.size ≤ 16777216) (h : ∀ t' k', Q (.bytes (b1 ++ b2) t') { s with toks := k' }) : wpAny (model prog w) A (call (.builtin "bytes.join") [.bytes #[] t, .ref l]) Q E s := by
  refine wpAny_call_entry bj_slot (PySem.W.typeIs_bytes _ _ _) bj_entry ?_ (bj_args _ _)
  have hT : s.TypeIs (.ref l) "list" := ⟨_, hl, rfl⟩
  show wpAny _ _ (Bytes.joinItems (.ref l) >>= _) _ _ s
  refine wpAny_bind ?_
  unfold Bytes.joinItems
  refine wpAny_bind (wpAny_typeOf hT ?_)
  refine bm_if_true (by decide) ?_
  refine wpAny_pure ?_
  refine wpAny_bind ?_
  show wpAny _ _ (load l >>= _) _ _ _
  refine wpAny_bind (wpAny_load hl ?_)
  refine wpAny_pure ?_
  dsimp only
  refine bm_if_true (by decide) ?_
  refine wpAny_bind ?_
  rw [show (#[Value.bytes b1 t1, Value.bytes b2 t2] : Array Value).size = 2 from rfl]
  refine wpAny_forIn2 ?_
  dsimp only
  refine wpAny_bind ?_
  show wpAny _ _ (load l >>= _) _ _ _
  refine wpAny_bind (wpAny_load hl ?_)
  refine wpAny_pure ?_
  dsimp only
  refine bm_if_false rfl ?_
  refine wpAny_bind (wpAny_holding (by_take ?_))
  dsimp only
  refine wpAny_bind ?_
  show wpAny _ _ (load l >>= _) _ _ _
  refine wpAny_bind (wpAny_load hl ?_)
  refine wpAny_pure ?_
  dsimp only
  refine bm_if_false rfl ?_
  refine wpAny_pure ?_
  dsimp only
  refine wpAny_bind ?_
  show wpAny _ _ (load l >>= _) _ _ _
  refine wpAny_bind (wpAny_load hl ?_)
  refine wpAny_pure ?_
  dsimp only
  refine bm_if_false rfl ?_
  refine wpAny_bind (wpAny_holding (by_take ?_))
  dsimp only
  refine wpAny_bind ?_
  show wpAny _ _ (load l >>= _) _ _ _
  refine wpAny_bind (wpAny_load hl ?_)
  refine wpAny_pure ?_
  dsimp only
  refine bm_if_false rfl ?_
  refine wpAny_pure ?_
  dsimp only
  refine wpAny_bind (wpAny_of_eq (a := #[]) rfl ?_)
  refine bm_if_false ?_ ?_
  · show decide (_ > sizeLine) = false
    rw [decide_eq_false]
    rw [sizeLine_eq]
    simp
    omega
  have ej : Bytes.joined #[] (((#[] : Array (Array UInt8)).push b1).push b2).toList = b1 ++ b2 := by simp [Bytes.joined, List.zipIdx]
  refine wpAny_bind (wpAny_mkBytes ?_ ?_)
  · refine wpAny_bind (wpAny_holding (wpAny_point ?_))
    refine wpAny_bind ?_
    · show wpAny _ _ (Bytes.joinLetGo [(.bytes b1 t1, none), (.bytes b2 t2, none)] _) _ _ _
      unfold Bytes.joinLetGo
      refine wpAny_bind (wpAny_letGo ?_)
      unfold Bytes.joinLetGo
      refine wpAny_bind (wpAny_letGo ?_)
      unfold Bytes.joinLetGo
      refine wpAny_pure ?_
      refine wpAny_pure ⟨_, rfl, ?_⟩
      show Q (.bytes (Bytes.joined #[] (((#[] : Array (Array UInt8)).push b1).push b2).toList) _) _
      rw [ej]
      exact h _ _
  · show (Bytes.joined #[] (((#[] : Array (Array UInt8)).push b1).push b2).toList).size ≤ _
    rw [ej, sizeLine_eq]
    simp only [Array.size_append]
    omega
theorem join3 {b1 b2 b3 : Array UInt8} {t t1 t2 t3 : Tok} (hl : s.heap.get? l = some (W.listOf #[.bytes b1 t1, .bytes b2 t2, .bytes b3 t3] n)) (hz : b1.size + b2.size + b3.size ≤ 16777216) (h : ∀ t' k', Q (.bytes (b1 ++ b2 ++ b3) t') { s with toks := k' }) : wpAny (model prog w) A (call (.builtin "bytes.join") [.bytes #[] t, .ref l]) Q E s := by
  refine wpAny_call_entry bj_slot (PySem.W.typeIs_bytes _ _ _) bj_entry ?_ (bj_args _ _)
  have hT : s.TypeIs (.ref l) "list" := ⟨_, hl, rfl⟩
  show wpAny _ _ (Bytes.joinItems (.ref l) >>= _) _ _ s
  refine wpAny_bind ?_
  unfold Bytes.joinItems
  refine wpAny_bind (wpAny_typeOf hT ?_)
  refine bm_if_true (by decide) ?_
  refine wpAny_pure ?_
  refine wpAny_bind ?_
  show wpAny _ _ (load l >>= _) _ _ _
  refine wpAny_bind (wpAny_load hl ?_)
  refine wpAny_pure ?_
  dsimp only
  refine bm_if_true (by decide) ?_
  refine wpAny_bind ?_
  rw [show (#[Value.bytes b1 t1, Value.bytes b2 t2, Value.bytes b3 t3] : Array Value).size = 3 from rfl]
  refine wpAny_forIn3 ?_
  dsimp only
  refine wpAny_bind ?_
  show wpAny _ _ (load l >>= _) _ _ _
  refine wpAny_bind (wpAny_load hl ?_)
  refine wpAny_pure ?_
  dsimp only
  refine bm_if_false rfl ?_
  refine wpAny_bind (wpAny_holding (by_take ?_))
  dsimp only
  refine wpAny_bind ?_
  show wpAny _ _ (load l >>= _) _ _ _
  refine wpAny_bind (wpAny_load hl ?_)
  refine wpAny_pure ?_
  dsimp only
  refine bm_if_false rfl ?_
  refine wpAny_pure ?_
  dsimp only
  refine wpAny_bind ?_
  show wpAny _ _ (load l >>= _) _ _ _
  refine wpAny_bind (wpAny_load hl ?_)
  refine wpAny_pure ?_
  dsimp only
  refine bm_if_false rfl ?_
  refine wpAny_bind (wpAny_holding (by_take ?_))
  dsimp only
  refine wpAny_bind ?_
  show wpAny _ _ (load l >>= _) _ _ _
  refine wpAny_bind (wpAny_load hl ?_)
  refine wpAny_pure ?_
  dsimp only
  refine bm_if_false rfl ?_
  refine wpAny_pure ?_
  dsimp only
  refine wpAny_bind ?_
  show wpAny _ _ (load l >>= _) _ _ _
  refine wpAny_bind (wpAny_load hl ?_)
  refine wpAny_pure ?_
  dsimp only
  refine bm_if_false rfl ?_
  refine wpAny_bind (wpAny_holding (by_take ?_))
  dsimp only
  refine wpAny_bind ?_
  show wpAny _ _ (load l >>= _) _ _ _
  refine wpAny_bind (wpAny_load hl ?_)
  refine wpAny_pure ?_
  dsimp only
  refine bm_if_false rfl ?_
  refine wpAny_pure ?_
  dsimp only
  refine wpAny_bind (wpAny_of_eq (a := #[]) rfl ?_)
  refine bm_if_false ?_ ?_
  · show decide (_ > sizeLine) = false
    rw [decide_eq_false]
    rw [sizeLine_eq]
    simp
    omega
  have ej : Bytes.joined #[] ((((#[] : Array (Array UInt8)).push b1).push b2).push b3).toList = b1 ++ b2 ++ b3 := by simp [Bytes.joined, List.zipIdx]
  refine wpAny_bind (wpAny_mkBytes ?_ ?_)
  · refine wpAny_bind (wpAny_holding (wpAny_point ?_))
    refine wpAny_bind ?_
    · show wpAny _ _ (Bytes.joinLetGo [(.bytes b1 t1, none), (.bytes b2 t2, none), (.bytes b3 t3, none)] _) _ _ _
      unfold Bytes.joinLetGo
      refine wpAny_bind (wpAny_letGo ?_)
      unfold Bytes.joinLetGo
      refine wpAny_bind (wpAny_letGo ?_)
      unfold Bytes.joinLetGo
      refine wpAny_bind (wpAny_letGo ?_)
      unfold Bytes.joinLetGo
      refine wpAny_pure ?_
      refine wpAny_pure ⟨_, rfl, ?_⟩
      show Q (.bytes (Bytes.joined #[] ((((#[] : Array (Array UInt8)).push b1).push b2).push b3).toList) _) _
      rw [ej]
      exact h _ _
  · show (Bytes.joined #[] ((((#[] : Array (Array UInt8)).push b1).push b2).push b3).toList).size ≤ _
    rw [ej, sizeLine_eq]
    simp only [Array.size_append]
    omega
end
end Mine
end
section
open PySem PySem.W PyProof.Rows PySem.Calls
open PySem.Sem (wp)
open AutoSeq1 (wpAny_loadPart')
set_option Elab.async false
set_option maxRecDepth 100000
namespace Mine
open Builtin
section
variable {prog : Program} {w : World} {A : Around} {E : Value → Shared → Prop} {s : Shared}
theorem nextOf_tup {it l : Addr} {i : Nat} {items : Array Value} {x : Value} {Q : Value → Shared → Prop} (hit : s.heap.IsTupleIter it l i) (hl : s.heap.IsTuple l items) (hx : items[i]? = some x)
    (hQ : ∀ h', h'.IsTupleIter it l (i + 1) → Heap.SameBut it s.heap h' → Q x { s with heap := h' }) : wpAny (model prog w) A (Builtin.SmallTypes.nextOf (.ref it)) Q E s := by
  obtain ⟨o, ho, hc, hd⟩ := id hit
  obtain ⟨ol, hol, _, nl, hdl⟩ := hl
  unfold Builtin.SmallTypes.nextOf
  refine wpAny_bind (wpAny_callSpecial?_slot (name := PySem.Str.ofString "__next__") hit.typeIs F.slot_tuple_iterator_next
    (wpAny_call_entry F.slot_tuple_iterator_next hit.typeIs F.entry_tuple_iterator_next ?_ (F.args_tuple_iterator_next_1 _)))
  show wpAny _ _ (field (.ref it) 0 >>= _) _ _ s
  refine wpAny_bind (wpAny_field ho hd (x := .ref l) rfl ?_)
  show wpAny _ _ (if (Value.ref l == Value.none) = true then _ else _) _ _ s
  rw [if_neg (show ¬ ((Value.ref l == Value.none) = true) from Bool.false_ne_true)]
  show wpAny _ _ (field (.ref it) 1 >>= _) _ _ s
  refine wpAny_bind (wpAny_field ho hd (x := .int i 0) rfl ?_)
  show wpAny _ _ (seqItems? (.ref l) >>= _) _ _ s
  refine wpAny_bind (wpAny_seqItems hol hdl ?_)
  simp only [Int.toNat_natCast, hx]
  refine wpAny_bind (wpAny_setField ho hd (by simp) (wpAny_pure ⟨x, rfl, wpAny_pure (hQ _ ?_ (Heap.SameBut.update ..))⟩))
  exact ⟨_, Heap.get?_update_self _ ho (Obj.isFreed_of_fields (Obj.data_mapFields hd _)), (Obj.cls_mapFields ..).trans hc, by
    rw [Obj.data_mapFields hd]; simp [rawInt]⟩
theorem nextOf_tup_end {it l : Addr} {i : Nat} {items : Array Value} {Q : Value → Shared → Prop} (hh : A.handled = none) (hit : s.heap.IsTupleIter it l i) (hl : s.heap.IsTuple l items) (hx : items[i]? = none)
    (hE : ∀ h' e, Heap.ExtBut it s.heap h' → (∃ o, h'.get? e = some o ∧ o.cls = .type "StopIteration") → E (.ref e) { s with heap := h' }) : wpAny (model prog w) A (Builtin.SmallTypes.nextOf (.ref it)) Q E s := by
  obtain ⟨o, ho, hc, hd⟩ := id hit
  obtain ⟨ol, hol, _, nl, hdl⟩ := hl
  unfold Builtin.SmallTypes.nextOf
  refine wpAny_bind (wpAny_callSpecial?_slot (name := PySem.Str.ofString "__next__") hit.typeIs F.slot_tuple_iterator_next
    (wpAny_call_entry F.slot_tuple_iterator_next hit.typeIs F.entry_tuple_iterator_next ?_ (F.args_tuple_iterator_next_1 _)))
  show wpAny _ _ (field (.ref it) 0 >>= _) _ _ s
  refine wpAny_bind (wpAny_field ho hd (x := .ref l) rfl ?_)
  show wpAny _ _ (if (Value.ref l == Value.none) = true then _ else _) _ _ s
  rw [if_neg (show ¬ ((Value.ref l == Value.none) = true) from Bool.false_ne_true)]
  show wpAny _ _ (field (.ref it) 1 >>= _) _ _ s
  refine wpAny_bind (wpAny_field ho hd (x := .int i 0) rfl ?_)
  show wpAny _ _ (seqItems? (.ref l) >>= _) _ _ s
  refine wpAny_bind (wpAny_seqItems hol hdl ?_)
  simp only [Int.toNat_natCast, hx]
  refine wpAny_bind (wpAny_rule (wpAny_bind (wpAny_setField ho hd (by simp) ?_)))
  show wpAny _ _ (newExc (.type "StopIteration") [] >>= _) _ _ _
  refine wpAny_bind ?_
  simp only [newExc, newTuple]
  refine wpAny_bind (wpAny_newObj_type ?_ (by size_fits))
  refine wpAny_bind (m := firstArgMember _ _) (wpAny_of_eq (a := Value.none) (by first | rfl | (simp only [firstArgMember]; rfl)) ?_)
  refine wpAny_newObj_type ?_ (by size_fits)
  simp only [raiseNew]
  refine wpAny_bind (wpAny_handled ?_)
  first | rw [show A.in1.handled = none from hh] | rw [hh]
  refine wpAny_bind (wpAny_pure (wpAny_throw ?_))
  exact hE _ _ (((Heap.SameBut.update ..).extBut.push _).push _) ⟨_, Heap.get?_push_size _ rfl, rfl⟩
end
theorem drawsTup {prog : Program} {w : World} {A : Around} (hh : A.handled = none) (it l : Addr) (hne : l ≠ it) (items : Array Value) :
    Draws prog w A it [it, l] items.size (fun i v => items[i]? = some v) (fun i h => h.IsTupleIter it l i ∧ h.IsTuple l items) where
  live := fun _ _ st => let ⟨o, ho, _⟩ := st.1; ⟨o, ho⟩
  frame := fun _ _ _ st hk => by
    obtain ⟨⟨o, a, b⟩, ⟨o', a', b'⟩⟩ := st
    exact ⟨⟨o, hk it (by simp) _ a, b⟩, ⟨o', hk l (by simp) _ a', b'⟩⟩
  item := fun i s Q E hi st hQ => by
    refine nextOf_tup st.1 st.2 (x := items[i]) (by simp [hi]) fun h' hit' hs' => ?_
    obtain ⟨o', a', b'⟩ := st.2
    exact hQ _ h' s.toks (by simp [hi]) ⟨hit', ⟨o', hs'.extBut _ _ hne a', b'⟩⟩ hs'
  done := fun s Q E st hE => nextOf_tup_end hh st.1 st.2 (by simp) hE
noncomputable abbrev enumAt (h : Heap) (l : Addr) : Heap := (h.push { cls := .type "tuple_iterator", data := .fields #[.ref l, .int 0 0] }).push { cls := .type "enumerate", data := .fields #[.none, .bool false, .ref h.objs.size, rawInt 0, .none, .none] }
theorem meets_enumT (l : Addr) (items : Array Value) :
    Meets (Builtin.«enumerate.__new__» ⟨[.type "enumerate", .ref l], []⟩) (fun _ R s => s.heap.get? l = some { cls := .type "tuple", data := .seq items } ∧
      R (.ok (.ret (.ref (s.heap.push { cls := .type "tuple_iterator", data := .fields #[.ref l, .int 0 0] }).objs.size))) { s with heap := enumAt s.heap l }) :=
  .of_wp fun prog w A R s h => by
    obtain ⟨hp, g, d, tk, os⟩ := s; obtain ⟨hl, h⟩ := h
    have hsub := sub_enumerate
    have hL : Heap.IsTuple (Shared.heap ⟨hp, g, d, tk, os⟩) l items := ⟨_, hl, rfl, _, rfl⟩
    wp_walk using wpAny_loadPart' hl
    refine wpAny_stack_any fun st => wpAny_pure ?_
    split
    · rename_i c _ _ _ _ _
      cases (c == Value.type "enumerate")
      · wp_walk using wpAny_loadPart' hl, wpAny_pyIter_tuple hL
        exact ⟨_, rfl, h⟩
      · wp_walk using wpAny_loadPart' hl, wpAny_pyIter_tuple hL
        exact ⟨_, rfl, h⟩
    · wp_walk using wpAny_loadPart' hl, wpAny_pyIter_tuple hL
      exact ⟨_, rfl, h⟩
section
variable {prog : Program} {w : World} {A : Around} {E : Value → Shared → Prop} {s : Shared}
theorem call_enumT {l : Addr} {items : Array Value} {Q : Value → Shared → Prop} (hl : s.heap.get? l = some { cls := .type "tuple", data := .seq items })
    (h : ∀ h', IsEnum h' (s.heap.objs.size + 1) s.heap.objs.size 0 .none → h'.IsTupleIter s.heap.objs.size l 0 → (∀ b o, s.heap.get? b = some o → h'.get? b = some o) → Q (.ref (s.heap.objs.size + 1)) { s with heap := h' }) :
    wpAny (model prog w) A (call (.type "enumerate") [.ref l]) Q E s := by
  refine callType_new F.called_enumerate (by decide) (F.typeCall_enumerate_1 _) (F.newCall_enumerate_1 _) (fun obj => F.args_object_init_2 obj _) F.entry_enumerate_new (meets_enumT l items) ⟨hl, ?_⟩
  have hz : (s.heap.push { cls := .type "tuple_iterator", data := .fields #[.ref l, .int 0 0] }).objs.size = s.heap.objs.size + 1 := Heap.size_push ..
  show _ ∧ _
  rw [hz]
  have he : IsEnum (enumAt s.heap l) (s.heap.objs.size + 1) s.heap.objs.size 0 .none := by
    have := Heap.get?_push_size (s.heap.push { cls := .type "tuple_iterator", data := .fields #[.ref l, .int 0 0] })
      (o := { cls := .type "enumerate", data := .fields #[.none, .bool false, .ref s.heap.objs.size, rawInt 0, .none, .none] }) rfl
    rw [hz] at this; exact this
  exact ⟨⟨_, he, rfl⟩, h _ he ⟨_, Heap.get?_push_of_some _ (Heap.get?_push_size _ rfl), rfl, rfl⟩ fun b o x => Heap.get?_push_of_some _ (Heap.get?_push_of_some _ x)⟩
end
theorem walksEnumT {prog : Program} {w : World} {A : Around} (hh : A.handled = none) (e it l : Addr) (hei : e ≠ it) (hle : l ≠ e) (hli : l ≠ it) (items : Array Value) :
    WalksU prog w A e (e :: [it, l]) [e, it] items.size (fun i vals => ∃ t x, items[i]? = some x ∧ vals = #[.int i t, x])
      (fun i h => (∃ old, IsEnum h e it i old) ∧ h.IsTupleIter it l i ∧ h.IsTuple l items)
      (fun i T h => (∃ x, IsEnumOut h e it ((i : Int) + 1) x T) ∧ (h.IsTupleIter it l (i + 1) ∧ h.IsTuple l items) ∧ T ≠ e ∧ T ≠ it) :=
  WalksT.toU (WalksT.enumerateD (drawsTup (A := A.in1) hh it l hli items) e hei (by simp [hei, Ne.symm hle]) (by simp))
end Mine
end
section
open PySem PySem.W PyProof.Rows PySem.Calls
open PySem.Sem (wp)
set_option Elab.async false
set_option maxRecDepth 100000
namespace Mine
open Builtin
section
variable {prog : Program} {w : World} {A : Around} {E : Value → Shared → Prop} {R : Result → Shared → Prop} {s : Shared} {I : Addr} {fp wr : List Addr} {n : Nat} {Pt : Nat → Array Value → Prop} {St : Nat → Heap → Prop} {Mid : Nat → Addr → Heap → Prop}
theorem lu_compLoop {elt iter tst : Expr} {xa xb : Str} {pa pb pt : Pos} {kt : Nat} {scope : Scope} {pos : Pos} {D : Addr} {cenv : Env} {m : Str → Option Value}
    (hh : A.handled = none) (W : WalksU prog w A I fp wr n Pt St Mid) (h2 : ∀ i vals, Pt i vals → ∃ va vb, vals = #[va, vb]) (hab : xa ≠ xb) (hxa : cenv.kindOf xa = some .local) (hxb : cenv.kindOf xb = some .local)
    (hp : (cenv.scope.kind == .class || (cenv.scope.kind == .module && cenv.locals != cenv.globals)) = false)
    (hst : St 0 s.heap) (hD : s.heap.PlainList D #[]) (hn : s.heap.Ns cenv.locals m) (hDf : D ∉ fp) (hCf : cenv.locals ∉ fp) (hDC : D ≠ cenv.locals) (hsz : n ≤ sizeLine)
    (htst : ∀ i va vb s₂ m₂ E', Pt i #[va, vb] → s₂.heap.Ns cenv.locals m₂ → m₂ xa = some va → m₂ xb = some vb → wpAny (model prog w) A (isTrue tst cenv (eval tst cenv)) (fun _ s₃ => Keeps s₂ s₃) E' s₂)
    (helt : ∀ i va vb s₂ m₂ E', Pt i #[va, vb] → s₂.heap.Ns cenv.locals m₂ → m₂ xa = some va → m₂ xb = some vb → wpAny (model prog w) A (eval elt cenv) (fun _ s₃ => Keeps s₂ s₃) E' s₂)
    (hR : ∀ h' tk m' ys, h'.Ns cenv.locals m' → h'.PlainList D ys → (∀ b o, b ≠ cenv.locals → b ≠ D → b ∉ wr → s.heap.get? b = some o → h'.get? b = some o) → R (.ok .next) { s with heap := h', toks := tk }) :
    codeAny (model prog w) A (.compLoop (.ListComp elt [⟨.Tuple [.Name xa pa, .Name xb pb] kt pt, iter, [tst], 0⟩] scope pos) 0 (.ref I) (.ref D) cenv) R s := by
  have hDw : D ∉ wr := fun q => hDf (W.sub _ q)
  have hCw : cenv.locals ∉ wr := fun q => hCf (W.sub _ q)
  refine kct_loop (fun k s' => ∃ i h' tk m' ys, s' = { s with heap := h', toks := tk } ∧ St i h' ∧ h'.PlainList D ys ∧ ys.size ≤ i ∧ h'.Ns cenv.locals m' ∧ i ≤ n ∧ k = n + 1 - i ∧
    (∀ b o, b ≠ cenv.locals → b ≠ D → b ∉ wr → s.heap.get? b = some o → h'.get? b = some o)) (fun k s' hI => ?_) (n + 1) ⟨0, s.heap, s.toks, m, #[], rfl, hst, hD, Nat.le_refl _, hn, Nat.zero_le _, rfl, fun _ _ _ _ _ e => e⟩
  obtain ⟨i, H, tk, m', ys, rfl, Z, hl, hys, hns, hi, rfl, hk⟩ := hI
  rcases Nat.lt_or_ge i n with hlt | hge
  · refine W.item i _ _ _ hlt Z fun T vals h₁ tk₁ hv hT hmid hk₁ => ?_
    obtain ⟨va, vb, rfl⟩ := h2 i vals hv
    refine W.go _ _ _ i T _ _ _ hmid fun h₂ Z₂ hk₂ => ?_
    have hT₂ : h₂.IsTuple T #[va, vb] := let ⟨o, e, r⟩ := hT; ⟨o, hk₂ _ o (W.apart i T _ hmid) e, r⟩
    refine wpAny_assign_Tuple hh hT₂ rfl rfl fun h₃ hx₃ => ?_
    have old₃ : ∀ b o, h₂.get? b = some o → h₃.get? b = some o := fun b o e => hx₃ b o (Nat.ne_of_lt (Heap.lt_size e)) e
    show wpAny _ _ (do holding [vb] (assign (.Name xa pa) cenv va); holding [] (assign (.Name xb pb) cenv vb); pure ()) _ _ _
    refine wpAny_bind (wpAny_holding (wpAny_assign_Name (wpAny_storeName_local hxa (hns.at' fun o e => old₃ _ o (hk₂ _ o hCw (hk₁ _ o hCw e))) (fun h₄ hn₄ hs₄ => ?_) hp)))
    refine wpAny_bind (wpAny_holding (wpAny_assign_Name (wpAny_storeName_local hxb hn₄ (fun h₅ hn₅ hs₅ => wpAny_pure ?_) hp)))
    have up : ∀ b o, b ≠ cenv.locals → b ∉ wr → H.get? b = some o → h₅.get? b = some o := fun b o hb hw e => hs₅.extBut b o hb (hs₄.extBut b o hb (old₃ b o (hk₂ b o hw (hk₁ b o hw e))))
    have Z₅ : St (i + 1) h₅ := W.frame _ _ _ Z₂ fun c hc o e => hs₅.extBut c o (fun x => hCf (x ▸ hc)) (hs₄.extBut c o (fun x => hCf (x ▸ hc)) (old₃ c o e))
    refine wpAny_mono (htst i va vb _ _ _ hv hn₅ (by simp only [if_neg hab, if_true]) (by simp only [if_true])) (fun ok s₆ h₆ => ?_) fun _ _ e => e
    obtain ⟨h₆, tk₆, rfl, hk₆⟩ := h₆
    have hn₆ := hn₅.keeps hk₆
    have Z₆ : St (i + 1) h₆ := W.frame _ _ _ Z₅ fun c _ o e => hk₆ c o e
    have hl₆ : h₆.PlainList D ys := hl.at fun o e => hk₆ _ o (up D o hDC hDw e)
    cases ok with
    | false =>
      exact ⟨n + 1 - (i + 1), by omega, i + 1, h₆, tk₆, _, ys, rfl, Z₆, hl₆, Nat.le_succ_of_le hys, hn₆, hlt, rfl, fun b o b1 b2 b3 e => hk₆ b o (up b o b1 b3 (hk b o b1 b2 b3 e))⟩
    | true =>
      simp only [if_true]
      refine wpAny_mono (helt i va vb _ _ _ hv hn₆ (by simp only [if_neg hab, if_true]) (by simp only [if_true])) (fun y s₇ h₇ => ?_) fun _ _ e => e
      obtain ⟨h₇, tk₇, rfl, hk₇⟩ := h₇
      have hl₇ : h₇.PlainList D ys := hl₆.at fun o e => hk₇ _ o e
      refine wpAny_list_append_plain (hsz := Nat.le_trans hys (Nat.le_trans hi hsz)) hl₇ fun h₈ hl₈ hs₈ => ?_
      refine ⟨n + 1 - (i + 1), by omega, i + 1, h₈, tk₇, _, _, rfl, W.frame _ _ _ Z₆ fun c hc o e => hs₈.extBut c o (fun x => hDf (x ▸ hc)) (hk₇ c o e), hl₈, by rw [Array.size_push]; omega, (hn₆.keeps hk₇).sameBut hs₈ (Ne.symm hDC), hlt, rfl, fun b o b1 b2 b3 e => ?_⟩
      exact hs₈.extBut b o b2 (hk₇ b o (hk₆ b o (up b o b1 b3 (hk b o b1 b2 b3 e))))
  · have hin : i = n := Nat.le_antisymm hi hge
    refine W.done _ _ _ (hin ▸ Z) fun h₁ tk₁ hk₁ => ?_
    exact hR h₁ tk₁ m' ys (hns.at' fun o e => hk₁ _ o hCw e) (hl.at fun o e => hk₁ _ o hDw e) fun b o b1 b2 b3 e => hk₁ b o b3 (hk b o b1 b2 b3 e)
theorem ListComp_U1 {env : Env} {elt iter tst : Expr} {xa xb : Str} {pa pb pt : Pos} {kt : Nat} {scope : Scope} {pos : Pos} {Q : Value → Shared → Prop} (hh : A.handled = none) (hab : xa ≠ xb)
    (hfree : ∀ y ∈ scope.names, y.2 ≠ .free) (hcell : ∀ y ∈ scope.names, y.2 ≠ .cell) (hkind : scope.kind = .function)
    (hnames : ∀ y ∈ scope.names, y.2 = .local → scope.names.lookup y.1 = some .local) (hxa : scope.names.lookup xa = some .local) (hxb : scope.names.lookup xb = some .local)
    (h : wpAny (model prog w) A (eval iter env) (fun xv s₂ => ∃ I fp wr n Pt St Mid, xv = .ref I ∧ WalksU prog w A I fp wr n Pt St Mid ∧ (∀ i vals, Pt i vals → ∃ va vb, vals = #[va, vb]) ∧ St 0 s₂.heap ∧ (∀ b ∈ fp, b < s₂.heap.objs.size) ∧ n ≤ sizeLine ∧
      (∀ C i va vb s₃ m₃ E', Pt i #[va, vb] → s₃.heap.Ns C m₃ → m₃ xa = some va → m₃ xb = some vb → wpAny (model prog w) A (isTrue tst (compEnv scope C env) (eval tst (compEnv scope C env))) (fun _ s₄ => Keeps s₃ s₄) E' s₃) ∧
      (∀ C i va vb s₃ m₃ E', Pt i #[va, vb] → s₃.heap.Ns C m₃ → m₃ xa = some va → m₃ xb = some vb → wpAny (model prog w) A (eval elt (compEnv scope C env)) (fun _ s₄ => Keeps s₃ s₄) E' s₃) ∧
      (∀ D h' tk ys, s₂.heap.objs.size ≤ D → h'.PlainList D ys → (∀ b o, b ∉ wr → s₂.heap.get? b = some o → h'.get? b = some o) → Q (.ref D) { s₂ with heap := h', toks := tk })) E s)
    (hs : ∀ x, foldedSetIterable iter env x = pure x := by intro _; rfl) :
    wpAny (model prog w) A (eval (.ListComp elt [⟨.Tuple [.Name xa pa, .Name xb pb] kt pt, iter, [tst], 0⟩] scope pos) env) Q E s := by
  refine wpAny_ListComp hfree hkind hnames (wpAny_mono h (fun xv s₂ h₂ => ?_) fun _ _ e => e) hs
  obtain ⟨I, fp, wr, n, Pt, St, Mid, rfl, W, h2, hst, hfp, hsz, htst, helt, hQ⟩ := h₂
  refine W.self 0 _ _ _ hst ?_
  refine wpAny_newObj_type (wpAny_newFunctionEnv hcell (by intro y hy; simp at hy) (fun h₁ hns₁ hsb₁ => ?_) hkind)
  dsimp only at hns₁ hsb₁ ⊢
  generalize hH2 : s₂.heap.push { cls := .type "list", dict := none, data := .seq ([] : List Value).toArray } = H2 at hns₁ hsb₁ ⊢
  have hC : H2.objs.size = s₂.heap.objs.size + 1 := by rw [← hH2, Heap.size_push]
  have hDC : s₂.heap.objs.size ≠ H2.objs.size := by rw [hC]; exact Nat.ne_of_lt (Nat.lt_succ_self _)
  have old : ∀ b o, s₂.heap.get? b = some o → h₁.get? b = some o := fun b o e => hsb₁.extBut b o (by rw [hC]; exact Nat.ne_of_lt (Nat.lt_succ_of_lt (Heap.lt_size e))) (Heap.get?_push_of_some _ (hH2 ▸ Heap.get?_push_of_some _ e))
  have hacc : h₁.PlainList s₂.heap.objs.size #[] := ⟨_, hsb₁.extBut _ _ hDC (Heap.get?_push_of_some _ (hH2 ▸ Heap.get?_push_size _ rfl))⟩
  have Z₁ : St 0 h₁ := W.frame _ _ _ hst fun c _ o e => old c o e
  have loop : ∀ s₃ : Shared, s₃ = { s₂ with heap := h₁, toks := s₂.toks + ([] : List (Str × Value)).length } →
      codeAny (model prog w) A (.compLoop (.ListComp elt [⟨.Tuple [.Name xa pa, .Name xb pb] kt pt, iter, [tst], 0⟩] scope pos) 0 (.ref I) (.ref s₂.heap.objs.size) (compEnv scope H2.objs.size env))
        (fun r s' => ∃ m, s'.heap.Ns H2.objs.size m ∧ ∀ h', Heap.SameBut H2.objs.size s'.heap h' →
          match r with | .ok _ => Q (.ref s₂.heap.objs.size) { s' with heap := h' } | .error x => wpAny (model prog w) A (passOn "comprehension.variables-let-go" x (compEnv scope H2.objs.size env)) Q E { s' with heap := h' }) s₃ := by
    rintro s₃ rfl
    refine lu_compLoop (cenv := compEnv scope H2.objs.size env) hh W h2 hab hxa hxb (by simp [compEnv, hkind]) Z₁ hacc hns₁ (fun hm => Nat.lt_irrefl _ (hfp _ hm)) (fun hm => by have := hfp _ hm; simp only [compEnv] at this; rw [hC] at this; exact Nat.lt_irrefl _ (Nat.lt_of_succ_lt this)) hDC hsz
      (fun i va vb s₄ m₄ E' a1 hn4 h4 h5 => htst _ i va vb s₄ m₄ E' a1 hn4 h4 h5) (fun i va vb s₄ m₄ E' a1 hn4 h4 h5 => helt _ i va vb s₄ m₄ E' a1 hn4 h4 h5) fun h' tk m' ys hn hl hk => ?_
    refine ⟨m', hn, fun h'' hs'' => ?_⟩
    refine hQ _ h'' tk ys (Nat.le_refl _) (hl.extBut hs''.extBut hDC) fun b o hb e => ?_
    have hbl := Heap.lt_size e
    have hb1 : b ≠ H2.objs.size := by rw [hC]; exact Nat.ne_of_lt (Nat.lt_succ_of_lt hbl)
    exact hs''.extBut b o hb1 (hk b o hb1 (Nat.ne_of_lt hbl) hb (old b o e))
  exact codeAny_compStart_list (loop _ rfl) (W.self 0 _ _ _ Z₁ (loop _ rfl))
end
end Mine
end
section
open PySem PySem.W PyProof.Rows PySem.Calls PyProof.Rows.LCg
set_option Elab.async false
set_option maxRecDepth 100000
namespace Mine
/-- what the iterable must be: a tuple that stands in the ledger, and the turns over its items -/
noncomputable def TupSrc (prog : Program) (w : World) (A : Around) (h₀ : Heap) (L : Addr) (m : Str → Option Value) (env : Env) (elt : Expr) (x : Str) (scope : Scope) (cl : List (Str × Addr)) (Q : Value → Shared → Prop) (xv : Value) (s₁ : Shared) : Prop :=
  ∃ ax its news, xv = .ref ax ∧ A.handled = none ∧ Fr h₀ L s₁.heap m ∧ News h₀ L s₁.heap news ∧ (ax, ({ cls := .type "tuple", data := .seq its } : Obj)) ∈ news ∧ its.size ≤ sizeLine ∧
      ∀ g, CompRest prog w A h₀ L m env elt x scope cl { s₁ with heap := g } (fun nw => (ax, ({ cls := .type "tuple", data := .seq its } : Obj)) ∈ nw) (fun i v => its[i]? = some v) (FinE h₀ L m { s₁ with heap := g } Q) its.size 0 [] news
section
variable {prog : Program} {w : World} {A : Around} {E : Value → Shared → Prop} {s : Shared} {h₀ : Heap} {L : Addr} {m : Str → Option Value} {env : Env}
theorem TupSrc.ledger {elt : Expr} {x : Str} {scope : Scope} {cl : List (Str × Addr)} {Q : Value → Shared → Prop} {ax : Addr} {its : Array Value} {news : List (Addr × Obj)} {s₁ : Shared}
    (hh : A.handled = none) (F : Fr h₀ L s₁.heap m) (N : News h₀ L s₁.heap news) (hm : (ax, ({ cls := .type "tuple", data := .seq its } : Obj)) ∈ news) (hsz : its.size ≤ sizeLine)
    (h : ∀ g, CompRest prog w A h₀ L m env elt x scope cl { s₁ with heap := g } (fun nw => (ax, ({ cls := .type "tuple", data := .seq its } : Obj)) ∈ nw) (fun i v => its[i]? = some v) (FinE h₀ L m { s₁ with heap := g } Q) its.size 0 [] news) :
    TupSrc prog w A h₀ L m env elt x scope cl Q (.ref ax) s₁ := ⟨ax, its, news, rfl, hh, F, N, hm, hsz, h⟩
/-- a comprehension over a tuple that stands in the ledger, turn by turn -/
theorem ListComp_UT {elt iter : Expr} {x : Str} {px : Pos} {scope : Scope} {cl : List (Str × Addr)} {pos : Pos} {Q : Value → Shared → Prop} (F₀ : Fr h₀ L s.heap m)
    (hclos : closureFor scope env = pure cl) (hcell : ∀ y ∈ scope.names, y.2 ≠ .cell) (hkind : scope.kind = .function)
    (hnames : ∀ y ∈ scope.names, y.2 = .local → scope.names.lookup y.1 = some .local) (hx : scope.names.lookup x = some .local)
    (h : wpAny (model prog w) A (eval iter env) (TupSrc prog w A h₀ L m env elt x scope cl Q) E s)
    (hs : ∀ x, foldedSetIterable iter env x = pure x := by intro _; rfl) :
    wpAny (model prog w) A (eval (.ListComp elt [⟨.Name x px, iter, [], 0⟩] scope pos) env) Q E s := by
  rw [eval_ListComp]
  refine wpAny_comprehension_free (use := none) rfl hs hclos hkind hnames (wpAny_mono h (fun xv s₁ h₁ => ?_) fun _ _ e => e)
  obtain ⟨ax, its, news, rfl, hh, F, N, S, hsz, R⟩ := h₁
  have hl : s₁.heap.IsTuple ax its := ⟨_, (N _ S).1, rfl, _, rfl⟩
  have hlt : ax < s₁.heap.objs.size := Heap.lt_size (N _ S).1
  refine wpAny_pyIter_tuple hl ?_
  have up : ∀ b o, s₁.heap.get? b = some o → (s₁.heap.push { cls := .type "tuple_iterator", data := .fields #[.ref ax, .int 0 0] }).get? b = some o := fun b o e => Heap.get?_push_of_some _ e
  refine block_U (Walks.tuple hh s₁.heap.objs.size ax (Nat.ne_of_lt hlt) its) hsz (fun i h st => by obtain ⟨o, e, _⟩ := st.1; exact ⟨o, e⟩)
    (fun i h h' o nw st e e' k N S => ⟨by obtain ⟨o', q, r⟩ := st.1; rw [e] at q; cases q; exact ⟨o, e', r⟩, ⟨_, (N _ S).1, rfl, _, rfl⟩⟩) hcell hkind hx ⟨⟨_, Heap.get?_push_size _ rfl, rfl, rfl⟩, hl.push _⟩ (fun b hb => ?_)
    (F.keeps up) (N.grown up) (Nat.ne_of_lt F.ns.lt) (next_is_new F) (fun p hp => Nat.ne_of_lt (Heap.lt_size (N p hp).1)) S (R _) ?_
  · show b < (s₁.heap.push _).objs.size
    rw [Heap.size_push]
    rcases List.mem_cons.mp hb with rfl | hb
    · exact Nat.lt_succ_self _
    · rw [List.mem_singleton.mp hb]; exact Nat.lt_succ_of_lt hlt
  · intro D C h tk m' ys news' F' N' o1 hn hC₀ hD₀ hCL hDL hCD offC fin
    refine ⟨m', hn, fun h'' hs'' => fin D h'' tk (F'.change hs'' hCL hC₀) (fun p hp => ?_) o1⟩
    refine ⟨hs''.extBut _ _ ?_ (N' p hp).1, (N' p hp).2⟩
    rcases List.mem_cons.mp hp with rfl | hp
    · exact Ne.symm hCD
    · exact offC p hp
end
end Mine
end
section
open PySem PySem.W PyProof.Rows PySem.Calls
set_option Elab.async false
set_option maxRecDepth 100000
namespace Mine
variable {w : World} {p : Program} {loose : List Str} {mean : ExcName → Option Value} {mg mb : Str → Option Value} {dp un : Nat} {gd : Option (List Code)} {outer : List Env} {base : Heap} {s : Shared} {Q E : Value → Shared → Prop}
example : Mark PySem.Challenge.rw_lh0033_01 K := by k_fill; trivial
local macro_rules | `(tactic| walk_at "eval Name") => `(tactic| (k_here; (with_reducible show wpAny _ _ (eval (Expr.Name _ _) (envX _ _ _ _ _ (_ :: _))) _ _ _); k_dflt (first
  | (refine' nameX_L ?F ?v ?_ ?a ?b; (case a => rfl); (case b => rfl); (case F => k_asm); (case v => exact rfl); k_whole)
  | (refine' nameX_C ?N ?c ?m ?d ?_ ?a ?b; (case a => rfl); (case b => rfl); (case N => k_asm); (case c => rfl); (case m => k_mem); (case d => k_asm); k_whole)
  | (refine' nameX_B ?F ?X ?T ?e ?v ?n ?_ ?a ?b; (case a => rfl); (case b => rfl); (case F => k_asm); (case X => k_asm); (case T => k_asm); (case e => k_is); (case v => boot_by_name); (case n => decide); k_whole)
  | (refine' nameFree ?F ?c ?o ?d ?_ ?a ?b; (case a => rfl); (case b => rfl); (case F => k_asm); (case c => rfl); (case o => assumption); (case d => assumption); k_whole))))
local macro_rules | `(tactic| walk_at "UnrEndW") => `(tactic| k_dflt ktu_end)
local macro_rules | `(tactic| walk_at "binaryOp Mult bytes int") => `(tactic| (k_here; (with_reducible show wpAny _ _ (binaryOp Operator.Mult (Value.bytes _ _) (Value.int _ _)) _ _ _); (refine mulB (by kba_ints) (by simp [rangeKs]) (by first | (simp [rangeKs]; done) | kba_size) (by first | decide | omega) (by first | decide | omega) ?_); intro b' t' k' hb'))
local macro_rules | `(tactic| walk_at "subscriptTail") => `(tactic| (k_here; (with_reducible show wpAny _ _ (subscriptTail _ (Expr.Slice _ _ none _) (Value.bytes _ _) (Value.ref _)) _ _ _); (with_reducible rename Fr _ _ _ _ => F'); (with_reducible rename News _ _ _ _ => N'); (refine KBc.slice_K (s := ⟨_, _, _, _, _⟩) F' N' (by assumption) (by constructor) (by constructor) (by first | kba_size | (simp [rangeKs]; done) | (simp [rangeKs]; omega)) ?_); intro _ _ _ _ _ kbcK; (try simp only [Option.elim, KBc.clip_lit, clipAt_nat, List.drop_zero, Nat.sub_zero] at kbcK)))
local macro_rules | `(tactic| walk_at "binaryOp FloorDiv int int") => `(tactic| (k_here; k_dflt (refine floordiv_int (by first | decide | omega) ?_ (Or.inl (by first | exact PyProof.noPylong_of_log2 (by decide +kernel) | exact PyProof.noPylong_small (by omega)))); (try dsimp only)))
local macro_rules | `(tactic| walk_at "eval Call Name") => `(tactic| (k_here; (with_reducible show wpAny _ _ (eval (Expr.Call (Expr.Name (Str.ofString "range") _) _ _ _) _) _ _ _); with_unfolding_all refine Call_ ?_))
example : True := by w_top off; first | walk1 | trivial
section
theorem data_ne {h : Heap} {a b : Addr} {o o' : Obj} (e : h.get? a = some o) (e' : h.get? b = some o') (hn : o.data ≠ o'.data) : a ≠ b := fun q => hn (by
  subst q
  rw [e] at e'
  cases e'
  rfl)
theorem news124 {g h : Heap} {L : Addr} {a b x c : Addr × Obj} (N : News g L h [a, b, x, c]) : News g L h [a, b, c] := fun p hp => N p (by
  simp only [List.mem_cons, List.not_mem_nil, or_false] at hp ⊢
  rcases hp with q | q | q <;> simp [q])
theorem hTot_lo (ks : List Int) : 0 ≤ hTot ks := fmod_lo _ (by decide)
theorem hTot_hi (ks : List Int) : hTot ks < 1000003 := fmod_hi _ (by decide)
theorem hashL_of {size x6 : Int} {ks : List Int} {b : Array UInt8} {l : List Int} (hx : x6 = hTot ks)
    (hb : KBw.bInts b = ((List.replicate (Int.toNat 9) ((rangeKs 0 (8 - 0 : Int).toNat).map fun k => Int.fmod (Int.fdiv x6 (k + 1)) 256)).flatten).take (clipAt l.length size)) (hl : l.length = 72) : KBw.bInts b = hashL size ks := by
  subst hx
  rw [hb, hl]
  rfl
theorem hFold {ks : List Int} {b b2 b3 b5 b6 b7 : Array UInt8} {t t2 t3 t5 t6 t7 : Tok} (hb : KBw.bInts b = ks) (k2 : KBw.bInts b2 = ks.take (clipAt ks.length (Int.fdiv ks.length 2))) (k3 : KBw.bInts b3 = ks.take (clipAt ks.length (Int.fdiv ks.length 3))) (k5 : KBw.bInts b5 = ks.take (clipAt ks.length (Int.fdiv ks.length 5)))
    (k6 : KBw.bInts b6 = (ks.drop (clipAt ks.length ((ks.length : Int) - 3))).take (ks.length - clipAt ks.length ((ks.length : Int) - 3))) (k7 : KBw.bInts b7 = (ks.drop (clipAt ks.length ((ks.length : Int) - 1))).take (ks.length - clipAt ks.length ((ks.length : Int) - 1))) :
    ([(b, t), (b2, t2), (b3, t3), (b5, t5), (b6, t6), (b7, t7)] : List (Array UInt8 × Tok)).foldl (fun t p => hStep ks.length t (KBw.bInts p.1).sum) 5381 = hTot ks := by
  simp only [List.foldl_cons, List.foldl_nil, hb, k2, k3, k5, k6, k7]
  rfl
noncomputable abbrev bodHl : List Stmt := takeF (x := bodH.getD 1 (.Pass ⟨0, 0, 0, 0⟩)) rfl
noncomputable abbrev tgtHl : Expr := takeT (x := bodH.getD 1 (.Pass ⟨0, 0, 0, 0⟩)) rfl
noncomputable abbrev envHx (L f c' c0 cc : Addr) : Env := envX qualH scoH L f (.ref c') [(Str.ofString "total", c0), (Str.ofString "size", cc)]
noncomputable abbrev mHa (b : Array UInt8) (tb tn : Tok) (n : Int) (pv : Option Value) : Str → Option Value := fun y =>
  if y = Str.ofString "part" then pv else if y = Str.ofString "many" then some (.int n tn) else if y = Str.ofString "data" then some (.bytes b tb) else none
set_option maxHeartbeats 800000 in
theorem hash_turn {g h : Heap} {L I TU c0 cc f c' : Addr} {oI oT o0 : Obj} {b pb : Array UInt8} {tb tn tp tt : Tok} {n tot : Int} {ks : List Int} {tk : Nat} {Q : Flow → Shared → Prop}
    (F : Fr g L h (mHa b tb tn n (some (.bytes pb tp)))) (N : News g L h [(I, oI), (TU, oT), (c0, o0)]) (hc : o0.data = .cell (some (.int tot tt))) (n1 : c0 ≠ I) (n2 : c0 ≠ TU)
    (X : (K w.params).In g) (T : Top p loose mean mg mb g) (hb : KBw.bInts pb = ks) (hl : ks.length ≤ 1000) (b0 : 0 ≤ n) (b1 : n ≤ 1000) (a0 : 0 ≤ tot) (a1 : tot < 1000003)
    (go : ∀ h' tk' o0' tt', Fr g L h' (mHa b tb tn n (some (.bytes pb tp))) → News g L h' [(I, oI), (TU, oT), (c0, o0')] → o0'.data = .cell (some (.int (hStep n tot ks.sum) tt')) → Q .next ⟨h', s.gens, s.drawn, tk', s.os⟩) :
    wpAny (model PySem.Challenge.pw_lh0033_01 w) ((Ar dp un gd outer).deeper (envHx L f c' c0 cc)) (execs bodHl (envHx L f c' c0 cc)) Q E ⟨h, s.gens, s.drawn, tk, s.os⟩ := by
  delta bodHl takeF bodH takeB envHx scoH takeS mHa
  k_steps
  (try dsimp only)
  rename Fr _ _ _ _ => F2
  rename News _ _ _ _ => N2
  refine storeX_C (s := ⟨_, _, _, _, _⟩) F2 N2 rfl (UpdF.tail (Ne.symm n1) (UpdF.tail (Ne.symm n2) (UpdF.head (fun p hp => nomatch hp)))) hc (fun h' o' F3 N3 d3 => ?_) rfl rfl
  (try dsimp only)
  k_steps
  exact go _ _ _ _ F3 N3 d3
theorem mHa_0 {b : Array UInt8} {tb tn : Tok} {n : Int} :
    (fun y => if y = Str.ofString "many" then some (.int n tn) else if y = Str.ofString "data" then some (.bytes b tb) else none) = mHa b tb tn n none := by
  funext y
  by_cases e1 : y = Str.ofString "part"
  · subst e1; rfl
  · simp only [mHa, if_neg e1]
theorem mHa_part {b : Array UInt8} {tb tn : Tok} {n : Int} {pv : Option Value} {v : Value} :
    (fun y => if y = Str.ofString "part" then some v else mHa b tb tn n pv y) = mHa b tb tn n (some v) := by
  funext y
  by_cases e1 : y = Str.ofString "part"
  · subst e1; rfl
  · simp only [mHa, if_neg e1]
/-- the total after the parts -/
theorem hash_loop {g : Heap} {L I TU c0 cc f c' : Addr} {b : Array UInt8} {tb tn : Tok} {n : Int} {items : Array Value} {R : Result → Shared → Prop}
    (n1 : c0 ≠ I) (n2 : c0 ≠ TU) (n4 : TU ≠ I) (X : (K w.params).In g) (T : Top p loose mean mg mb g) (b0 : 0 ≤ n) (b1 : n ≤ 1000) :
    ∀ (l : List (Array UInt8 × Tok)) (i : Nat) {h : Heap} {oI o0 : Obj} {pv : Option Value} {tot : Int} {tt : Tok} {tk : Nat},
    items.toList.drop i = l.map (fun p => Value.bytes p.1 p.2) → (∀ p ∈ l, p.1.size ≤ 1000) → Fr g L h (mHa b tb tn n pv) → News g L h [(I, oI), (TU, { cls := .type "tuple", data := .seq items }), (c0, o0)] → h.IsTupleIter I TU i → o0.data = .cell (some (.int tot tt)) → 0 ≤ tot → tot < 1000003 →
    (∀ h' tk' o0' tt' pv', Fr g L h' (mHa b tb tn n pv') → News g L h' [(c0, o0')] → o0'.data = .cell (some (.int (l.foldl (fun t p => hStep n t (KBw.bInts p.1).sum) tot) tt')) → R (.ok .next) ⟨h', s.gens, s.drawn, tk', s.os⟩) →
    codeAny (model PySem.Challenge.pw_lh0033_01 w) ((Ar dp un gd outer).deeper (envHx L f c' c0 cc)) (.forLoop tgtHl (.ref I) bodHl [] (envHx L f c' c0 cc)) R ⟨h, s.gens, s.drawn, tk, s.os⟩ := by
  intro l
  induction l with
  | nil =>
    intro i h oI o0 pv tot tt tk hd hz F N hit hc a0 a1 go
    refine codeA_forTurn ?_
    have hN := N (I, oI) (by k_mem)
    refine wpAny_pyNext_tuple_end (s := ⟨_, _, _, _, _⟩) rfl hit ⟨_, N.get (a := TU) (by k_mem), rfl, _, rfl⟩ (by rw [← Array.getElem?_toList]; have := congrArg List.head? hd; rwa [List.head?_drop] at this) fun h' e => ?_
    refine wpAny_execs_nil (go _ _ _ _ _ (frExt F hN.2.2 (Ne.symm hN.2.1) e) (fun p hp => ?_) hc)
    simp only [List.mem_cons, List.not_mem_nil, or_false] at hp
    subst hp
    exact ⟨e _ _ n1 (N.get (by k_mem)), (N (c0, o0) (by k_mem)).2⟩
  | cons q l ih =>
    intro i h oI o0 pv tot tt tk hd hz F N hit hc a0 a1 go
    refine codeA_forTurn ?_
    have hN := N (I, oI) (by k_mem)
    refine wpAny_pyNext_tuple_item (s := ⟨_, _, _, _, _⟩) (x := .bytes q.1 q.2) hit ⟨_, N.get (a := TU) (by k_mem), rfl, _, rfl⟩ (by rw [← Array.getElem?_toList]; have := congrArg List.head? hd; rwa [List.head?_drop] at this) fun h' hit' sb => ?_
    dsimp only
    obtain ⟨oI', eI, r⟩ := id hit'
    have F2 := frExt F hN.2.2 (Ne.symm hN.2.1) sb.extBut
    have N2 : News g L h' [(I, oI'), (TU, { cls := .type "tuple", data := .seq items }), (c0, o0)] := newsBut N eI sb.extBut (by
      simp only [List.mem_cons, List.not_mem_nil, or_false, forall_eq_or_imp, forall_eq]
      exact ⟨n4, n1⟩)
    delta tgtHl takeT
    refine wpAny_assign_Name (storeX_L (s := ⟨_, _, _, _, _⟩) F2 N2 (fun h4 F4 N4 => ?_) rfl rfl)
    refine hash_turn (s := s) (frEq F4 mHa_part) N4 hc n1 n2 X T rfl (by rw [KBw.ints_length]; exact hz q (.head _)) b0 b1 a0 a1 fun h5 tk5 o5 t5 F5 N5 d5 => ?_
    refine ih (i + 1) (by rw [← List.tail_drop, hd]; rfl) (fun p hp => hz p (.tail _ hp)) F5 N5 ⟨oI', N5.get (a := I) (by k_mem), r⟩ d5 (fmod_lo _ (by decide)) (fmod_hi _ (by decide)) go
local macro_rules | `(tactic| walk_at "exec For Name Tuple cons nil") => `(tactic| (k_here; refine halt ?_))
local macro_rules | `(tactic| walk_at "pyIter ref") => `(tactic| (k_here; refine halt ?_))
set_option maxHeartbeats 1000000 in
theorem hashed_spec {f : Addr} {size : Int} {b : Array UInt8} {ks : List Int} {tb : Tok}
    (X : (K w.params).In s.heap) (T : Top p loose mean mg mb s.heap) (H : HashAt s.heap f size)
    (hb : KBw.bInts b = ks) (hlen : ks.length ≤ 1000) (h0 : 1 ≤ size) (h8 : size ≤ 72) (hd : dp + 1 < recursionLimit)
    (hret : ∀ (b : Array UInt8) (t : Tok) (h' : Heap) (tk' : Nat), Kept s.heap h' → KBw.bInts b = hashL size ks → Q (.bytes b t) { s with heap := h', toks := tk' }) :
    wpAny (model PySem.Challenge.pw_lh0033_01 w) (Ar dp un gd outer) (call (.ref f) [.bytes b tb]) Q E s := by
  obtain ⟨cc, oc, t, c', ctv, doc, pm, ho, hcc, hdc, hcr⟩ := H
  refine wpAny_call ?_
  k_dflt (refine' enterC1 ?k5 ?g1 ?g2 ?k7 ?k8 ?k9 ?kB ?c6 ?c7 ?_ ?c2 ?c3 ?c4; (case k5 => k_asm); (case g1 => assumption); (case g2 => exact rfl); (case k7 => assumption); (case k8 => first | ktr_room | (dsimp only [Ar]; omega)); (case k9 => exact BindsTo.of_eq rfl); (case kB => exact rfl); (case c6 => exact fun _ => rfl); (case c7 => exact fun _ => rfl); (case c2 => exact rfl); (case c3 => exact rfl); (case c4 => exact rfl); k_whole; intro Lx c0 ha oa da F' N'; (try dsimp only); (try k_fold))
  delta bodH takeB scoH takeS parH takeP
  k_steps
  unfold Halt
  refine wpAny_For ?_
  k_steps
  unfold Halt
  rename Fr _ _ _ _ => F1
  rename News _ _ _ _ => N1
  rename_i tkz Da hb1 l1a hc1 hd1 he1 oz dz hf ta ka k2 hg tb2 kb k3 hh tc kc k5 hi2 td kd k6 hj te ke k7 TU hk l1b
  generalize KBy.picked b none (some (Int.fdiv (ks.length : Int) 2)) = p2 at N1 k2
  generalize KBy.picked b none (some (Int.fdiv (ks.length : Int) 3)) = p3 at N1 k3
  generalize KBy.picked b none (some (Int.fdiv (ks.length : Int) 5)) = p5 at N1 k5
  generalize KBy.picked b (some ((ks.length : Int) - 3)) none = p6 at N1 k6
  generalize KBy.picked b (some ((ks.length : Int) - 1)) none = p7 at N1 k7
  have n2 : c0 ≠ TU := data_ne (N1.get (a := c0) (by k_mem)) (N1.get (a := TU) (by k_mem)) (fun z => by rw [dz] at z; cases z)
  have lt1 := fun p hp => Nat.ne_of_lt (Heap.lt_size (N1 p hp).1)
  refine wpAny_pyIter_tuple (s := ⟨_, _, _, _, _⟩) ⟨_, N1.get (a := TU) (by k_mem), rfl, _, rfl⟩ ?_
  refine codeA_push rfl fun h4 hk4 ht4 hs4 => ?_
  have F4 := frKept F1 hk4
  have N4 := newsTop F1 N1 hk4 ht4
  have N5 := news124 N4
  have lk : (KBw.bInts b).length ≤ 1000 := by rw [hb]; exact hlen
  refine hash_loop (s := s) (lt1 (c0, oz) (by k_mem)) n2 (lt1 _ (.head _)) X T (by omega) (by omega)
    [(b, tb), (p2, ta), (p3, tb2), (p5, tc), (p6, td), (p7, te)] 0 rfl ?sz (frEq F4 mHa_0) N5 ⟨_, ht4, rfl, rfl⟩ dz (by decide) (by decide) fun h5 tk5 o5 t5 pv5 F5 N6 d5 => ?_
  case sz =>
    simp only [List.mem_cons, List.not_mem_nil, or_false, forall_eq_or_imp, forall_eq, ← KBw.ints_length, k2, k3, k5, k6, k7, hb, List.length_take, List.length_drop]
    have r1 := fun a => Nat.le_trans (Nat.min_le_right a ks.length) hlen
    have r2 := fun a b => Nat.le_trans (Nat.min_le_left (ks.length - a) b) (Nat.le_trans (Nat.sub_le _ _) hlen)
    exact ⟨hlen, r1 _, r1 _, r1 _, r2 _ _, r2 _ _⟩
  rw [hFold hb k2 k3 k5 k6 k7] at d5
  have a0 := hTot_lo ks
  have a1 := hTot_hi ks
  obtain ⟨x6, hx6⟩ : ∃ x, x = hTot ks := ⟨_, rfl⟩
  rw [← hx6] at d5 a0 a1
  clear F1 N1 F4 N4 N5
  (try dsimp only)
  k_steps
  ((try dsimp only); (try k_unfold); (try dsimp only))
  refine ret_bytes hret (by assumption) ?_
  refine hashL_of hx6 (by assumption) ?_
  simp [rangeKs]
end
example : True := by w_top off; first | walk1 | trivial
section
noncomputable abbrev ixor : Int → Int → Int := Builtin.bitXor
theorem ixor_in {a c : Int} (a0 : 0 ≤ a) (a1 : a < 256) (c0 : 0 ≤ c) (c1 : c < 256) : 0 ≤ ixor a c ∧ ixor a c < 256 := by
  obtain ⟨m, rfl⟩ := Int.eq_ofNat_of_zero_le a0
  obtain ⟨n, rfl⟩ := Int.eq_ofNat_of_zero_le c0
  have hm : m < 2 ^ 8 := by omega
  have hn : n < 2 ^ 8 := by omega
  have h1 : m ||| n < 2 ^ 8 := Nat.or_lt_two_pow hm hn
  have h2 : m &&& n ≤ m := Nat.and_le_left
  have h3 : m ≤ m ||| n := Nat.left_le_or
  have e : ixor (m : Int) (n : Int) = ((m ||| n : Nat) : Int) - ((m &&& n : Nat) : Int) := by
    have e1 : ∀ k : Nat, decide (0 ≤ Builtin.bitNot (k : Int)) = false := fun k => decide_eq_false (by simp only [Builtin.bitNot]; omega)
    have e2 : ∀ k : Nat, decide (0 ≤ (k : Int)) = true := fun k => decide_eq_true (by omega)
    have e3 : ∀ x : Int, Builtin.bitNot (Builtin.bitNot x) = x := fun x => by simp only [Builtin.bitNot]; omega
    simp only [ixor, Builtin.bitXor, Builtin.bitOr, Builtin.bitAnd, e1, e2, e3, Int.toNat_natCast]
  omega
theorem zipInts_in {b1 b2 : Array UInt8} : ∀ k ∈ zipInts ixor b1 b2, 0 ≤ k ∧ k < 256 := by
  intro k hk
  unfold zipInts at hk
  obtain ⟨i, hi⟩ := List.mem_iff_getElem?.mp hk
  rw [List.getElem?_zipWith] at hi
  cases h1 : (KBw.bInts b1)[i]? with
  | none => simp [h1] at hi
  | some a =>
    cases h2 : (KBw.bInts b2)[i]? with
    | none => simp [h1, h2] at hi
    | some c =>
      simp [h1, h2] at hi
      subst hi
      have ha := KBw.ints_in (List.mem_of_getElem? h1)
      have hc := KBw.ints_in (List.mem_of_getElem? h2)
      exact ixor_in ha.1 ha.2 hc.1 hc.2
theorem AreInts.to {vs : List Value} {ks : List Int} (h : AreInts vs ks) : IntsAre vs ks := by
  induction h with
  | nil => exact .nil
  | cons _ ih => exact .cons _ _ ih
local macro_rules | `(tactic| walk_at "eval ListComp") => `(tactic| (k_here; (with_reducible show wpAny _ _ (eval (Expr.ListComp _ [⟨Expr.Tuple _ _ _, _, _, _⟩] _ _) _) _ _ _); refine halt ?_))
local macro_rules | `(tactic| walk_at "call type:zip") => `(tactic| (k_here; (with_reducible show wpAny _ _ (call (Value.type "zip") [Value.bytes _ _, Value.bytes _ _]) _ _ _); refine halt ?_))
set_option maxHeartbeats 400000 in
theorem laid_spec {b1 b2 : Array UInt8} {t1 t2 : Tok}
    (X : (K w.params).In s.heap) (T : Top p loose mean mg mb s.heap) (n1 : b1.size ≤ 72) (hd : dp + 1 < recursionLimit) (hu : un + 40 < cLine)
    (hret : ∀ (b : Array UInt8) (t : Tok) (h' : Heap) (tk' : Nat), Kept s.heap h' → KBw.bInts b = zipInts ixor b1 b2 → Q (.bytes b t) { s with heap := h', toks := tk' }) :
    wpAny (model PySem.Challenge.pw_lh0033_01 w) (Ar dp un gd outer) (call (.ref 438) [.bytes b1 t1, .bytes b2 t2]) Q E s := by
  (refine wpAny_call ?_; k_dflt (refine' enter (news := []) ?g1 ?g2 ?k3 ?k5 ?kN ?k6 ?k7 ?k8 ?k9 ?kB ?_ ?c2 ?c3 ?c4 ?c5; (case g1 => exact fun _ _ e => e); (case g2 => exact rfl); (case k3 => k_asm); (case k5 => k_asm); (case kN => exact fun _ h => nomatch h); (case k6 => k_is); (case k7 => k_is); (case k8 => first | ktr_room | (dsimp only [Ar]; omega)); (case k9 => exact BindsTo.of_eq rfl); (case c5 => decide); (case kB => exact locs rfl); (case c2 => exact rfl); (case c3 => exact rfl); (case c4 => exact rfl); k_whole; intro L' h' F' N'; (try dsimp only); (try k_fold)))
  k_steps
  refine ListComp_zipB (f := ixor) rfl (by decide) (by decide) (by decide) rfl (by decide) rfl rfl ?_ (by intro _; rfl)
  k_steps
  unfold Halt
  rename Fr _ _ _ _ => F1
  rename News _ _ _ _ => N1
  refine call_zipB fun z TI TO i1 i2 h2 P Z hnew hk => ?_
  try dsimp only
  refine ⟨z, TI, TO, i1, i2, _, _, _, _, rfl, P, Z, Nat.le_trans (Nat.min_le_left _ _) (Nat.le_trans n1 (by decide +kernel)), ?_, ?_⟩
  · intro C c d u v s₃ m₃ E' c0 c1 d0 d1 hn ha hc
    refine wpAny_BinOp (wpAny_Name (wpAny_loadName_local rfl rfl hn ha (wpAny_Name (wpAny_loadName_local rfl rfl hn hc (PyProof.Rows.xor_int ⟨⟨_, rfl⟩, ?_⟩)))))
    exact ⟨_, _, rfl, fun _ _ e => e⟩
  · intro D h3 tk3 ys hD hl hA hk3
    have kept3 : Kept s.heap h3 := fun b o e => by
      have e1 := hk _ _ (F1.keep b o e)
      refine hk3 b o (fun hm => ?_) e1
      have hb := hnew b (by simp at hm ⊢; rcases hm with h | h | h | h <;> simp [h])
      exact absurd (Heap.lt_size (F1.keep b o e)) (Nat.not_lt.mpr hb)
    k_steps
    have hlen : ys.toList.length ≤ sizeLine := by
      rw [hA.length, zipInts_length]
      exact Nat.le_trans (Nat.min_le_left _ _) (Nat.le_trans n1 (by decide +kernel))
    refine call_bytes_ints (vs := ys.toList) (by simpa using hl.isList) hA.to zipInts_in hlen rfl fun h4 t k hk4 => ?_
    ((try dsimp only); (try k_unfold); (try dsimp only))
    exact hret _ _ _ _ (fun b o e => hk4 _ _ (kept3 b o e)) (KBa.ints_make zipInts_in)
end
example : True := by w_top off; first | walk1 | trivial
section
local macro_rules | `(tactic| walk_at "eval GeneratorExp") => `(tactic| (k_here; refine halt ?_))
local macro_rules | `(tactic| walk_at "call type:bytes") => `(tactic| (k_here; (with_reducible show wpAny _ _ (call (Value.type "bytes") [Value.ref _]) _ _ _); refine halt ?_))
local macro_rules | `(tactic| walk_at "call type:zip") => `(tactic| (k_here; (with_reducible show wpAny _ _ (call (Value.type "zip") [Value.bytes _ _, Value.bytes _ _]) _ _ _); refine halt ?_))
/-- the state of a table of codes -/
noncomputable def TabX (c P : Addr) (h : Heap) : Prop := ∃ ps, h.IsCode c P ps ∧ h.get? P = some (tabObj ps)
/-- the generators after a run: bare, if they were so before -/
noncomputable abbrev GensOf (a : Array GenState) : Type := { b : Array GenState // AllBare a → AllBare b }
noncomputable abbrev GensOf.same {a : Array GenState} : GensOf a := ⟨a, id⟩
noncomputable abbrev GensOf.trans {a : Array GenState} (x : GensOf a) (y : GensOf x.1) : GensOf a := ⟨y.1, fun z => y.2 (x.2 z)⟩
theorem genCode {M : Model} {A : Around} {E : Value → Shared → Prop} {s : Shared} {env : Env} {c P : Addr} {ps : Array Value} {pos : Pos} {qualname : Str} {scope : Scope} {Q : Value → Shared → Prop} (hc : env.code = .ref c) (hok : s.heap.IsCode c P ps) (C : CodeHd s.heap c P) (hP : s.heap.get? P = some (tabObj ps))
    (hQ : ∀ code h' tk ps', Heap.ExtBut P s.heap h' → h'.IsCode c P ps' → h'.get? P = some (tabObj ps') → Q code { s with heap := h', toks := tk }) : wpAny M A (genexprCode env pos qualname scope) Q E s := by
  cases hnf : codeAmong pos ps.toList with
  | some cv => exact wpAny_genexprCode_hit hc hok hnf (hQ cv s.heap s.toks ps (Heap.ExtBut.refl _ _) hok hP)
  | none => exact wpAny_genexprCodeX hc hok (C.tab hP) hnf fun c' h' tk k _ _ ok _ tab _ => hQ _ _ _ _ k ok tab.2
theorem codeOk {c P : Addr} {h : Heap} {ps : Array Value} (x : h.IsCode c P ps) : TriplesOk ps.toList := by
  obtain ⟨_, _, _, _, _, _, _, _, _, _, _, _, _, _, _, _, _, _, _, r, _⟩ := x
  exact r
set_option maxHeartbeats 400000 in
theorem xor_spec {b1 b2 : Array UInt8} {t1 t2 : Tok}
    (X : (K w.params).In (s.heap.hide 51)) (T : Top p loose mean mg mb (s.heap.hide 51)) (hT : TabX 55 51 s.heap) (n1 : b1.size ≤ 72) (hd : dp + 2 < recursionLimit) (hu : un + 40 < cLine)
    (hret : ∀ (b : Array UInt8) (t : Tok) (h' : Heap) (tk' : Nat) (g' : GensOf s.gens), Heap.ExtBut 51 s.heap h' → TabX 55 51 h' → KBw.bInts b = zipInts ixor b1 b2 → Q (.bytes b t) ⟨h', g'.1, s.drawn, tk', s.os⟩) :
    wpAny (model PySem.Challenge.pw_lh0033_01 w) (Ar dp un gd outer) (call (.ref 56) [.bytes b1 t1, .bytes b2 t2]) Q E s := by
  obtain ⟨ps, hC, hTb⟩ := hT
  have C := code55 X
  obtain ⟨o51, ho51⟩ : ∃ o, s.heap.get? 51 = some o := by
    obtain ⟨o, vs, file, tf, flags, tg, inF, text, tt, op, f1, f2, f3, f4, f5, f6, f7, f8, _⟩ := hC
    exact ⟨_, f8⟩
  have N0 : ∀ p ∈ [((51 : Addr), o51)], s.heap.get? p.1 = some p.2 ∧ (s.heap.hide 51).get? p.1 = none := fun p hp => by
    rcases List.mem_singleton.mp hp with rfl
    exact ⟨ho51, Heap.hide_self _ _⟩
  (refine wpAny_call ?_; k_dflt (refine' enter (g := Heap.hide _ 51) ?g1 ?g2 ?k3 ?k5 ?kN ?k6 ?k7 ?k8 ?k9 ?kB ?_ ?c2 ?c3 ?c4 ?c5; (case g1 => exact keptHide _ _); (case g2 => exact Heap.hide_size _ _); (case k3 => k_asm); (case k5 => k_asm); (case kN => assumption); (case k6 => k_is); (case k7 => k_is); (case k8 => first | ktr_room | (dsimp only [Ar]; omega)); (case k9 => exact BindsTo.of_eq rfl); (case c5 => decide); (case kB => exact locs rfl); (case c2 => exact rfl); (case c3 => exact rfl); (case c4 => exact rfl); k_whole; intro L' h' F' N'; (try dsimp only); (try k_fold)))
  k_steps
  unfold Halt
  rename Fr _ _ _ _ => F1
  rename News _ _ _ _ => N1
  have k1 := keptWhole F1.keep (N1.get (by k_mem)) ho51
  refine wpAny_GeneratorExp_walksQT (cl := []) rfl rfl rfl (by decide) rfl rfl rfl (by decide) rfl (by first | ktr_room | (dsimp only [Ar]; omega)) ?_ (by intro _; rfl)
  k_steps
  unfold Halt
  refine call_zipB fun z TI TO i1 i2 h2 P Z hnew hk => ?_
  try dsimp only
  have k2 : Kept s.heap h2 := fun b o e => hk _ _ (k1 _ _ e)
  k_steps
  refine (walksZipB rfl P).self 0 _ _ _ Z ⟨T.nolimit.keeps fun b o e => k2 _ _ (Heap.of_hide e), ?_⟩
  refine genCode (c := 55) (P := 51) rfl (hC.keeps k2) (C.keeps fun b o e => k2 _ _ (Heap.of_hide e)) (k2 _ _ hTb) fun code h3 tk3 ps3 hx3 hok3 htb3 => ?_
  obtain ⟨bm, ob, M⟩ := bmod_of_top T
  have k3 : Kept (s.heap.hide 51) h3 := fun b o e => hx3 b o (fun q => by rw [q, Heap.hide_self] at e; cases e) (k2 _ _ (Heap.of_hide e))
  have M3 := M.keeps k3
  refine wpAny_builtinsFor M3.ns M3.name M3.ne M3.obj M3.cls M3.dict M3.data ?_
  have old : ∀ b, b < s.heap.objs.size → b ∉ [z, TI, TO, i1, i2] := fun b hb hm => by
    have q1 := hnew b hm
    have q2 := F1.above
    have q3 := F1.ns.lt
    rw [Heap.hide_size] at q2
    exact Nat.lt_irrefl b (Nat.lt_of_lt_of_le hb (Nat.le_trans q2 (Nat.le_trans (Nat.le_of_lt q3) q1)))
  have lt51 : 51 < s.heap.objs.size := Heap.lt_size ho51
  have Z3 : ZipB h3 z TI TO i1 i2 b1 b2 t1 t2 .none 0 0 := Z.keep fun b hb o e => hx3 b o (fun q => old 51 lt51 (q ▸ hb)) e
  have ltS : cStatics < s.heap.objs.size := by
    obtain ⟨_, hn, _⟩ := T.nolimit
    have := hn.lt
    rwa [Heap.hide_size] at this
  have hfp : ∀ b ∈ [z, TI, TO, i1, i2], b < h3.objs.size := by
    intro b hb
    simp only [List.mem_cons, List.not_mem_nil, or_false] at hb
    rcases hb with rfl | rfl | rfl | rfl | rfl
    · exact Heap.lt_size Z3.z
    · exact Heap.lt_size Z3.TI
    · obtain ⟨_, _, e⟩ := Z3.TO; exact Heap.lt_size e
    · obtain ⟨_, e, _⟩ := Z3.i1; exact Heap.lt_size e
    · obtain ⟨_, e, _⟩ := Z3.i2; exact Heap.lt_size e
  refine ⟨z, [z, TI, TO, i1, i2], [z, TO, i1, i2], min b1.size b2.size, _, _, _, fun _ => true, fun i y => ∃ c d t, b1[i]? = some c ∧ b2[i]? = some d ∧ y = .int (ixor (c.toNat : Int) (d.toNat : Int)) t, rfl, fun A' hA => walksZipB hA P,
    fun i vals hv => by obtain ⟨c, d, u, v, _, _, e⟩ := hv; exact ⟨_, _, e⟩, Z3, hfp, T.nolimit.keeps k3, fun hm => old _ ltS (by simp at hm ⊢; rcases hm with h | h | h | h <;> simp [h]), fun href hk5 => ⟨?_, ?_⟩, ?_⟩
  · intro A' E' i va vb s₂ m₂ _ _ _ _ _ _
    exact wpAny_pure ⟨rfl, s₂.heap, s₂.toks, rfl, fun _ _ e => e⟩
  · intro A' E' i va vb s₂ m₂ _ hPt _ hn ha hb _
    obtain ⟨c, d, u, v, e1, e2, e3⟩ := hPt
    have ea : va = .int (c.toNat : Int) u := by injection e3 with e; injection e with e _
    have eb : vb = .int (d.toNat : Int) v := by injection e3 with e; injection e with _ e; injection e with e _
    subst ea eb
    refine wpAny_BinOp (wpAny_Name (wpAny_loadName_local rfl rfl hn ha (wpAny_Name (wpAny_loadName_local rfl rfl hn hb (PyProof.Rows.xor_int ⟨⟨_, _, _, e1, e2, rfl⟩, ?_⟩)))))
    exact ⟨_, _, rfl, fun _ _ e => e⟩
  · intro a h5 tk gs hb hlt hsz k5 W hst
    k_steps
    unfold Halt
    have ep : passing (fun _ => true) (min b1.size b2.size) 0 = List.range (min b1.size b2.size) := by simp [passing]
    rw [ep, List.length_range] at W
    obtain ⟨oG, nm, qn, eG, _, eD, _⟩ := hst.1
    dsimp only at hlt hsz k5 eG
    have lt3 : s.heap.objs.size ≤ h3.objs.size := by
      have q2 := F1.above
      rw [Heap.hide_size] at q2
      have q4 : z < h3.objs.size := hfp z (by simp)
      have q5 := hnew z (by simp)
      exact Nat.le_trans q2 (Nat.le_trans (Nat.le_of_lt F1.ns.lt) (Nat.le_trans q5 (Nat.le_of_lt q4)))
    refine call_bytes_gen (WalksS.in4_2 W) zipInts_length (fun i s' st => st.1.typeIs) ?_ zipInts_in ?_ hst ?_ eG eD fun s' t hm => ?_
    · rintro i v ⟨i', e1, c, d, t, e2, e3, e4⟩
      refine ⟨_, _, e4, ?_⟩
      have e5 : i' = i := by
        rcases Nat.lt_or_ge i (min b1.size b2.size) with q | q
        · rw [List.getElem?_range q] at e1
          exact (Option.some.inj e1).symm
        · rw [List.getElem?_eq_none (by simpa using q)] at e1
          cases e1
      subst e5
      exact zipInts_get e2 e3
    · rw [zipInts_length]
      exact Nat.le_trans (Nat.min_le_left _ _) (Nat.le_trans n1 (by decide +kernel))
    · intro b hb
      show b < h5.objs.size
      rw [hsz]
      rcases List.mem_cons.mp hb with rfl | hb
      · exact Nat.lt_succ_self _
      · rcases List.mem_cons.mp hb with rfl | hb
        · exact Nat.lt_succ_of_lt hlt
        · exact Nat.lt_succ_of_lt (Nat.lt_trans (List.mem_range.mp hb) hlt)
    · ((try dsimp only); (try k_unfold); (try dsimp only))
      obtain ⟨h', g', dr, tk', os'⟩ := s'
      have q1 := hm.drawn
      have q2 := hm.os
      dsimp only at q1 q2
      subst q1 q2
      have notw : ∀ b, b < s.heap.objs.size → b ∉ h3.objs.size :: [z, TO, i1, i2] := fun b hb hm => by
        rcases List.mem_cons.mp hm with rfl | hm
        · exact absurd hb (Nat.not_lt.mpr lt3)
        · exact old _ hb (by simp at hm ⊢; rcases hm with h | h | h | h <;> simp [h])
      have k6 : ∀ b o, b < s.heap.objs.size → h3.get? b = some o → h'.get? b = some o := fun b o hb e => hm.heap b o (notw b hb) (k5 _ _ e)
      refine hret _ _ _ _ ⟨g', fun z => (AllBare.push z hb).moved hm.gens⟩ (fun b o hb e => k6 b o (Heap.lt_size e) (hx3 b o hb (k2 _ _ e))) ?_ (KBa.ints_make zipInts_in)
      have t51 := k6 51 _ lt51 htb3
      exact ⟨ps3, (C.keeps fun b o e => k6 b o (Heap.lt_size (Heap.of_hide e)) (k3 b o e)).code t51 (codeOk hok3), t51⟩
end
example : True := by w_top off; first | walk1 | trivial
section
local macro_rules | `(tactic| walk_at "call builtin:int.to_bytes") => `(tactic| (k_here; refine halt ?_))
theorem callWith_kwF {M : Model} {A : Around} {E : Value → Shared → Prop} {s : Shared} {env : Env} {pos : Pos} {id : String} {first : List Value} {e : Expr} {rest : List Expr} {kws : List Keyword} {Q : Value → Shared → Prop}
    (h : wpAny M A (spliced (backTo pos (starEach (e :: rest) env))) (fun vs s₁ => wpAny M A (evalAll ((backToKw pos (keywordEach kws env)).map (·.2)))
      (fun kvs s₂ => wpAny M A (call (.builtin id) (first ++ vs) (((backToKw pos (keywordEach kws env)).filterMap (·.1)).zip kvs)) Q E s₂) E s₁) E s)
    (he : backTo pos (starEach (e :: rest) env) = (false, eval e env) :: backTo pos (starEach rest env) := by rfl)
    (hplain : (backTo pos (starEach (e :: rest) env)).any (·.1) = false := by rfl)
    (hall : (backToKw pos (keywordEach kws env)).all (·.1.isSome) = true := by rfl)
    (hkw : (backToKw pos (keywordEach kws env)).any (·.1.isNone) = false := by rfl) :
    wpAny M A (callWith pos (.builtin id) first (backTo pos (starEach (e :: rest) env)) (backToKw pos (keywordEach kws env))) Q E s := by
  refine PyProof.Rows.callWith_builtin_kwB hplain hkw ?_
  rw [he] at h ⊢
  exact PyProof.Rows.evalArgs_kwB hall h
set_option maxHeartbeats 400000 in
theorem i2osp_spec {x : Int} {k : Nat} {t1 t2 : Tok}
    (X : (K w.params).In s.heap) (T : Top p loose mean mg mb s.heap) (h0 : 0 ≤ x) (hk : k ≤ 72) (h1 : x < 256 ^ k) (hd : dp + 1 < recursionLimit) (hu : un + 40 < cLine)
    (hret : ∀ (b : Array UInt8) (t : Tok) (h' : Heap) (tk' : Nat), Kept s.heap h' → KBw.bInts b = bigOct k x → Q (.bytes b t) { s with heap := h', toks := tk' }) :
    wpAny (model PySem.Challenge.pw_lh0033_01 w) (Ar dp un gd outer) (call (.ref 42) [.int x t1, .int (k : Int) t2]) Q E s := by
  (refine wpAny_call ?_; k_dflt (refine' enter (news := []) ?g1 ?g2 ?k3 ?k5 ?kN ?k6 ?k7 ?k8 ?k9 ?kB ?_ ?c2 ?c3 ?c4 ?c5; (case g1 => exact fun _ _ e => e); (case g2 => exact rfl); (case k3 => k_asm); (case k5 => k_asm); (case kN => exact fun _ h => nomatch h); (case k6 => k_is); (case k7 => k_is); (case k8 => first | ktr_room | (dsimp only [Ar]; omega)); (case k9 => exact BindsTo.of_eq rfl); (case c5 => decide); (case kB => exact locs rfl); (case c2 => exact rfl); (case c3 => exact rfl); (case c4 => exact rfl); k_whole; intro L' h' F' N'; (try dsimp only); (try k_fold)))
  k_steps
  show wpAny _ _ (callWith _ (.builtin "int.to_bytes") [.int x t1] (backTo _ (starEach [_] _)) (backToKw _ (keywordEach _ _))) _ _ _
  refine callWith_kwF ?_
  k_steps
  unfold Halt
  rename Fr _ _ _ _ => F1
  refine toBytesKw hk h0 h1 fun b t' k' hb => ?_
  ((try dsimp only); (try k_unfold); (try dsimp only))
  exact hret _ _ _ _ (fun b o e => F1.keep _ _ e) hb
end
example : True := by w_top off; first | walk1 | trivial
section
set_option maxHeartbeats 4000000 in
theorem lawAt_spec {l : Addr} {vs : List Value} {ns : List Int} {k : Int} {tk : Tok}
    (X : (K w.params).In s.heap) (T : Top p loose mean mg mb s.heap)
    (hl : s.heap.IsList l vs.toArray) (hi : IntsAre vs ns) (hlen : ns.length < 2 ^ 62) (h0 : 0 ≤ k) (hk9 : k < 100) (hd : dp + 1 < recursionLimit) (hu : un + 8 < cLine)
    (hret : ∀ (t : Tok) (h' : Heap) (tk' : Nat), Kept s.heap h' → Q (.int (lawAt ns k) t) { s with heap := h', toks := tk' }) :
    wpAny (model PySem.Challenge.pw_lh0033_01 w) (Ar dp un gd outer) (call (.ref 412) [.ref l, .int k tk]) Q E s := by
  (refine wpAny_call ?_; k_dflt (refine' enter (news := []) ?g1 ?g2 ?k3 ?k5 ?kN ?k6 ?k7 ?k8 ?k9 ?kB ?_ ?c2 ?c3 ?c4 ?c5; (case g1 => exact fun _ _ e => e); (case g2 => exact rfl); (case k3 => k_asm); (case k5 => k_asm); (case kN => exact fun _ h => nomatch h); (case k6 => k_is); (case k7 => k_is); (case k8 => first | ktr_room | (dsimp only [Ar]; omega)); (case k9 => exact BindsTo.of_eq rfl); (case c5 => decide); (case kB => exact locs rfl); (case c2 => exact rfl); (case c3 => exact rfl); (case c4 => exact rfl); k_whole; intro L' h' F' N'; (try dsimp only); (try k_fold)))
  k_steps
  all_goals (
    ((try dsimp only); (try k_unfold); (try dsimp only))
    refine ret_int hret (by assumption) ?_
    unfold lawAt lawRaw
    repeat' split
    all_goals first | rfl | omega)
end
example : True := by w_top off; first | walk1 | trivial
section
/-- the running number of the octets -/
noncomputable def octNum (n : Int) : Nat → Int
  | 0 => n
  | k + 1 => Int.fdiv (octNum n k) 256 + 37 * k
/-- the octets themselves, as ints -/
noncomputable def octL (n : Int) (size : Nat) : List Int := (List.range size).map fun k => Int.fmod (octNum n k) 256
theorem octL_in (n : Int) (size : Nat) : KBa.In (octL n size) := by
  intro k hk
  obtain ⟨i, _, rfl⟩ := List.mem_map.mp hk
  exact ⟨fmod_lo _ (by decide), fmod_hi _ (by decide)⟩
theorem octL_length (n : Int) (size : Nat) : (octL n size).length = size := by simp [octL]
theorem octF_eq (n : Int) (size : Nat) : List.foldl (fun (p : Int × List Int) (k : Int) => (p.fst.fdiv 256 + 37 * k, p.snd ++ [p.fst.fmod 256])) (n, []) (rangeKs 0 size) = (octNum n size, octL n size) := by
  induction size with
  | zero => rfl
  | succ m ih =>
    have e : rangeKs 0 (m + 1) = rangeKs 0 m ++ [(m : Int)] := by simp [rangeKs, List.range_succ]
    rw [e, List.foldl_append, ih]
    simp [octNum, octL, List.range_succ]

set_option maxHeartbeats 4000000 in
theorem octets_spec {n size : Int} {tk tk2 : Tok}
    (X : (K w.params).In s.heap) (T : Top p loose mean mg mb s.heap)
    (h0 : 0 ≤ size) (h8 : size ≤ 1000000) (hd : dp + 1 < recursionLimit)
    (hret : ∀ (b : Array UInt8) (t : Tok) (h' : Heap) (tk' : Nat), Kept s.heap h' → KBw.bInts b = octL n size.toNat → Q (.bytes b t) { s with heap := h', toks := tk' }) :
    wpAny (model PySem.Challenge.pw_lh0033_01 w) (Ar dp un gd outer) (call (.ref 419) [.int n tk, .int size tk2]) Q E s := by
  (refine wpAny_call ?_; k_dflt (refine' enter (news := []) ?g1 ?g2 ?k3 ?k5 ?kN ?k6 ?k7 ?k8 ?k9 ?kB ?_ ?c2 ?c3 ?c4 ?c5; (case g1 => exact fun _ _ e => e); (case g2 => exact rfl); (case k3 => k_asm); (case k5 => k_asm); (case kN => exact fun _ h => nomatch h); (case k6 => k_is); (case k7 => k_is); (case k8 => first | ktr_room | (dsimp only [Ar]; omega)); (case k9 => exact BindsTo.of_eq rfl); (case c5 => decide); (case kB => exact locs rfl); (case c2 => exact rfl); (case c3 => exact rfl); (case c4 => exact rfl); k_whole; intro L' h' F' N'; (try dsimp only); (try k_fold)))
  k_steps
  have e0 : (size - 0).toNat = size.toNat := by omega
  simp only [octF_eq, e0] at *
  have hin := octL_in n size.toNat
  have hlen : (octL n size.toNat).length ≤ 1000000 := by rw [octL_length]; omega
  k_steps
  ((try dsimp only); (try k_unfold); (try dsimp only))
  exact ret_bytes hret (by assumption) (KBa.ints_make (octL_in _ _))
end
example : True := by w_top off; first | walk1 | trivial
section
noncomputable abbrev hObj (cc : Addr) (ctv doc pm : Value) (c' : Addr) : Obj := fnMade (Str.ofString "hashed") qualH parH bodH scoH [(Str.ofString "size", cc)] doc pm c' ctv
noncomputable abbrev triple (c' : Addr) : Array Value := #[rawInt 347, rawInt 4, .ref c']
set_option maxHeartbeats 4000000 in
theorem law_hash_miss {size : Int} {tk : Tok}
    (X : (K w.params).In (s.heap.hide 421)) (T : Top p loose mean mg mb (s.heap.hide 421)) (hP : s.heap.get? 421 = some (tabObj #[])) (hd : dp + 1 < recursionLimit)
    (hret : ∀ (f cc c' : Addr) (o1 o2 : Obj) (vs : Array Value) (t t2 : Tok) (ctv doc pm : Value) (h' : Heap) (tk' : Nat), Heap.ExtBut 421 s.heap h' → h'.get? 421 = some (tabObj (triple c')) → h'.get? f = some (hObj cc ctv doc pm c') → h'.get? cc = some o1 → o1.data = .cell (some (.int size t)) →
      h'.get? c' = some o2 → o2.data = .fields vs → vs[1]? = some (.str qualH t2) → s.heap.objs.size ≤ cc → cc < c' → c' < f → Q (.ref f) { s with heap := h', toks := tk' }) :
    wpAny (model PySem.Challenge.pw_lh0033_01 w) (Ar dp un gd outer) (call (.ref 426) [.int size tk]) Q E s := by
  have C := code425 X
  have N0 : ∀ p ∈ [((421 : Addr), tabObj #[])], s.heap.get? p.1 = some p.2 ∧ (s.heap.hide 421).get? p.1 = none := fun p hp => by
    rcases List.mem_singleton.mp hp with rfl
    exact ⟨hP, Heap.hide_self _ _⟩
  (refine wpAny_call ?_; k_dflt (refine' enterCell ?g1 ?g2 ?k3 ?k5 ?kN ?k6 ?k7 ?k8 ?k9 ?kB ?c6 ?_ ?c2 ?c3 ?c4; (case k3 => k_asm); (case k5 => k_asm); (case g1 => first | exact fun _ _ e => e | exact keptHide _ _); (case g2 => first | exact rfl | exact Heap.hide_size _ _); (case kN => assumption); (case k6 => k_is); (case k7 => k_is); (case k8 => first | ktr_room | (dsimp only [Ar]; omega)); (case k9 => exact BindsTo.of_eq rfl); (case kB => exact rfl); (case c6 => exact fun _ => rfl); (case c2 => exact rfl); (case c3 => exact rfl); (case c4 => exact rfl); k_whole; intro L' c0' h' o0' tk0' d0' F' N' l0' l1'; (try k_lt l1'); (try k_lt2 l0'); (try dsimp only); (try k_fold)))
  k_steps
  ((try dsimp only); (try k_unfold); (try dsimp only))
  rename Fr _ _ _ _ => F1
  rename News _ _ _ _ => N1
  have hsz := F1.above
  rw [Heap.hide_size] at hsz
  refine hret _ _ _ _ _ _ _ _ _ _ _ _ _ (fun b o hb e => F1.keep b o ((Heap.hide_ne _ hb).trans e)) (N1.get (by k_mem)) (N1.get (by k_mem)) (N1.get (by k_mem)) (by assumption) (N1.get (by k_mem)) (by assumption) (by assumption) ?_ ?_ ?_
  all_goals first | assumption | omega | (apply ltN; omega)
set_option maxHeartbeats 4000000 in
theorem law_hash_hit {size : Int} {tk : Tok} {c' : Addr} {o2 : Obj} {vs : Array Value} {t2 : Tok}
    (X : (K w.params).In (s.heap.hide 421)) (T : Top p loose mean mg mb (s.heap.hide 421)) (hP : s.heap.get? 421 = some (tabObj (triple c'))) (hc2 : s.heap.get? c' = some o2) (hne : c' ≠ 421) (hd2 : o2.data = .fields vs) (hv2 : vs[1]? = some (.str qualH t2)) (hd : dp + 1 < recursionLimit)
    (hret : ∀ (f cc : Addr) (o1 : Obj) (t : Tok) (ctv doc pm : Value) (h' : Heap) (tk' : Nat), Kept s.heap h' → h'.get? f = some (hObj cc ctv doc pm c') → h'.get? cc = some o1 → o1.data = .cell (some (.int size t)) →
      s.heap.objs.size ≤ cc → cc < f → Q (.ref f) { s with heap := h', toks := tk' }) :
    wpAny (model PySem.Challenge.pw_lh0033_01 w) (Ar dp un gd outer) (call (.ref 426) [.int size tk]) Q E s := by
  have C := code425 X
  have N0 : ∀ p ∈ [((421 : Addr), tabObj (triple c'))], s.heap.get? p.1 = some p.2 ∧ (s.heap.hide 421).get? p.1 = none := fun p hp => by
    rcases List.mem_singleton.mp hp with rfl
    exact ⟨hP, Heap.hide_self _ _⟩
  (refine wpAny_call ?_; k_dflt (refine' enterCell ?g1 ?g2 ?k3 ?k5 ?kN ?k6 ?k7 ?k8 ?k9 ?kB ?c6 ?_ ?c2 ?c3 ?c4; (case k3 => k_asm); (case k5 => k_asm); (case g1 => first | exact fun _ _ e => e | exact keptHide _ _); (case g2 => first | exact rfl | exact Heap.hide_size _ _); (case kN => assumption); (case k6 => k_is); (case k7 => k_is); (case k8 => first | ktr_room | (dsimp only [Ar]; omega)); (case k9 => exact BindsTo.of_eq rfl); (case kB => exact rfl); (case c6 => exact fun _ => rfl); (case c2 => exact rfl); (case c3 => exact rfl); (case c4 => exact rfl); k_whole; intro L' c0' h' o0' tk0' d0' F' N' l0' l1'; (try k_lt l1'); (try k_lt2 l0'); (try dsimp only); (try k_fold)))
  k_steps
  ((try dsimp only); (try k_unfold); (try dsimp only))
  rename Fr _ _ _ _ => F1
  rename News _ _ _ _ => N1
  have hsz := F1.above
  rw [Heap.hide_size] at hsz
  refine hret _ _ _ _ _ _ _ _ _ (fun b o e => ?_) (N1.get (by k_mem)) (N1.get (by k_mem)) (by assumption) ?_ ?_
  · by_cases hb : b = 421
    · subst hb
      rw [hP] at e
      cases e
      exact N1.get (by k_mem)
    · exact F1.keep b o ((Heap.hide_ne _ hb).trans e)
  all_goals first | assumption | omega | (apply ltN; omega)
end
example : True := by w_top off; first | walk1 | trivial
section
local macro_rules | `(tactic| walk_at "call ref") => `(tactic| (k_here; (with_reducible show wpAny _ _ (call (Value.ref _) _ _) _ _ _); refine halt ?_))
local macro_rules | `(tactic| walk_at "callWith ref") => `(tactic| (k_here; (with_reducible show wpAny _ _ (callWith _ (Value.ref _) [] (backTo _ (starEach [_] _)) (backToKw _ (keywordEach (_ :: _) _))) _ _ _); refine callWith_fieldsKw ?_))
set_option maxHeartbeats 400000 in
theorem os2ip_spec {b : Array UInt8} {ks : List Int} {t1 : Tok}
    (X : (K w.params).In s.heap) (T : Top p loose mean mg mb s.heap) (hk : KBw.bInts b = ks) (hn : ks.length ≤ 256) (hd : dp + 1 < recursionLimit)
    (hret : ∀ (t : Tok) (h' : Heap) (tk' : Nat), Kept s.heap h' → Q (.int (KFB.value ks) t) { s with heap := h', toks := tk' }) :
    wpAny (model PySem.Challenge.pw_lh0033_01 w) (Ar dp un gd outer) (call (.ref 49) [.bytes b t1]) Q E s := by
  (refine wpAny_call ?_; k_dflt (refine' enter (news := []) ?g1 ?g2 ?k3 ?k5 ?kN ?k6 ?k7 ?k8 ?k9 ?kB ?_ ?c2 ?c3 ?c4 ?c5; (case g1 => exact fun _ _ e => e); (case g2 => exact rfl); (case k3 => k_asm); (case k5 => k_asm); (case kN => exact fun _ h => nomatch h); (case k6 => k_is); (case k7 => k_is); (case k8 => first | ktr_room | (dsimp only [Ar]; omega)); (case k9 => exact BindsTo.of_eq rfl); (case c5 => decide); (case kB => exact locs rfl); (case c2 => exact rfl); (case c3 => exact rfl); (case c4 => exact rfl); k_whole; intro L' h' F' N'; (try dsimp only); (try k_fold)))
  k_steps
  unfold Halt
  rename Fr _ _ _ _ => F1
  rename News _ _ _ _ => N1
  subst hk
  refine callFbKw (KFB.at_of N1 (by k_mem)) (by rw [← KBw.ints_length]; exact hn) ?_
  ((try dsimp only); (try k_unfold); (try dsimp only))
  exact hret _ _ _ (fun b o e => F1.keep _ _ e)
end
example : True := by w_top off; first | walk1 | trivial
section
set_option maxHeartbeats 400000 in
theorem exd_refused {bm bk : Array UInt8} {f : Addr} {size d block : Int} {t1 t2 t3 t4 t5 : Tok}
    (X : (K w.params).In s.heap) (T : Top p loose mean mg mb s.heap) (z0 : 0 ≤ size) (z1 : size ≤ 10000) (d0 : 1 ≤ d) (d1 : d ≤ 72) (hr : 255 < (bk.size : Int) ∨ 255 < Int.fdiv (size + d - 1) d) (nk : bk.size ≤ 1000) (hd : dp + 5 < recursionLimit) (hu : un + 80 < cLine)
    (hret : ∀ (t : Tok) (h' : Heap) (tk' : Nat), Kept s.heap h' → Q (.str (Str.ofString "refused") t) { s with heap := h', toks := tk' }) :
    wpAny (model PySem.Challenge.pw_lh0033_01 w) (Ar dp un gd outer) (call (.ref 445) [.bytes bm t1, .bytes bk t2, .int size t3, .ref f, .int d t4, .int block t5]) Q E s := by
  obtain ⟨ks, hk⟩ : ∃ ks, KBw.bInts bk = ks := ⟨_, rfl⟩
  have hl : ks.length = bk.size := by rw [← hk, KBw.ints_length]
  (refine wpAny_call ?_; k_dflt (refine' enter (news := []) ?g1 ?g2 ?k3 ?k5 ?kN ?k6 ?k7 ?k8 ?k9 ?kB ?_ ?c2 ?c3 ?c4 ?c5; (case g1 => exact fun _ _ e => e); (case g2 => exact rfl); (case k3 => k_asm); (case k5 => k_asm); (case kN => exact fun _ h => nomatch h); (case k6 => k_is); (case k7 => k_is); (case k8 => first | ktr_room | (dsimp only [Ar]; omega)); (case k9 => exact BindsTo.of_eq rfl); (case c5 => decide); (case kB => exact locs rfl); (case c2 => exact rfl); (case c3 => exact rfl); (case c4 => exact rfl); k_whole; intro L' h' F' N'; (try dsimp only); (try k_fold)))
  k_steps
  all_goals (((try dsimp only); (try k_unfold); (try dsimp only)))
  all_goals (try (rename Fr _ _ _ _ => F1; refine hret _ _ _ F1.keep))
  all_goals trace_state
end
example : True := by w_top off; first | walk1 | trivial
section
theorem enterLe {prog : Program} {A : Around} {g : Heap} {Kf : Frag} {R : Result → Shared → Prop} {name qual : Str} {params : Arguments} {body : List Stmt} {scope : Scope} {dV kV doc pm cdv ct oc : Value} {an od : Option Addr} {osl : Array (Option Value)} {f : Addr} {args : Args} {binds : List (Str × Value)} {news : List (Addr × Obj)}
    (hg : Kept g s.heap) (hsz : g.objs.size ≤ s.heap.objs.size) (X : Kf.In g) (T : Top p loose mean mg mb g)
    (N : ∀ p ∈ news, s.heap.get? p.1 = some p.2 ∧ g.get? p.1 = none)
    (ho : Kf.lookup f = some ⟨oc, od, .func (fnOf name qual params body scope dV kV doc pm an cdv ct), osl⟩) (hcd : codeIn Kf cdv qual = true) (hroom : A.depth < recursionLimit)
    (hbind : BindsTo s (fnOf name qual params body scope dV kV doc pm an cdv ct) args binds) (hloc : ∀ y ∈ binds, scope.names.lookup y.1 = some .local)
    (h : ∀ L' h₁, Fr g L' h₁ (fun y => binds.reverse.lookup y) → News g L' h₁ news →
      wpAny (model prog w) (A.deeper (envOf qual scope L' f cdv)) (execs body (envOf qual scope L' f cdv))
        (fun fl s' => R (.ok (.ret (match fl with | .ret v => v | _ => .none))) s')
        (fun e s' => wpAny (model prog w) (A.deeper (envOf qual scope L' f cdv)) (leaving (envOf qual scope L' f cdv) e) (fun _ s'' => R (.error e) s'') (fun e' s'' => R (.error e') s'') s')
        { s with heap := h₁, toks := s.toks + binds.length })
    (hco : scope.isCoroutine = false) (hgen : scope.isGenerator = false) (hk : scope.kind = .function)
    (hcell : ∀ x ∈ scope.names, x.2 ≠ .cell) : codeAny (model prog w) A (.call (.ref f) args) R s := by
  refine codeAny_call_def (fd := fnOf name qual params body scope dV kV doc pm an cdv ct) (body := body) (binds := binds) hroom (hg _ _ (X _ _ ho)) rfl (T.nolimit.keeps hg)
    (codeRec_of (X.keeps hg) hcd) rfl hbind hcell hloc (fun h₁ hns hk₁ => ?_) hco hgen hk
  exact h s.heap.objs.size h₁ ⟨hns, fun b o e => hk₁ b o (hg b o e), hsz⟩ fun p hp => ⟨hk₁ _ _ (N p hp).1, Nat.ne_of_lt (Heap.lt_size (N p hp).1), (N p hp).2⟩
noncomputable abbrev fqDict (P : Params) (q n : Int) (a1 a2 a3 a4 : Tok) : Obj := dictOf [⟨PyData.keyHash P (Str.ofString "field_modulus"), .str (Str.ofString "field_modulus") a1, .int q a2⟩, ⟨PyData.keyHash P (Str.ofString "n"), .str (Str.ofString "n") a3, .int n a4⟩] 2
set_option maxHeartbeats 400000 in
theorem fq_new {v q : Int} {t1 t2 : Tok} (hq : 1 ≤ q)
    (X : (K w.params).In s.heap) (T : Top p loose mean mg mb s.heap) (hd : dp + 6 < recursionLimit) (hu : un + 90 < cLine)
    (hret : ∀ (x dx : Addr) (a1 a2 a3 a4 : Tok) (h' : Heap) (tk' : Nat), Kept s.heap h' → h'.get? x = some (instObj 249 dx) → h'.get? dx = some (fqDict w.params q (Int.fmod v q) a1 a2 a3 a4) → s.heap.objs.size ≤ dx → dx < x → Q (.ref x) { s with heap := h', toks := tk' }) :
    wpAny (model PySem.Challenge.pw_lh0033_01 w) (Ar dp un gd outer) (call (.ref 249) [.int v t1, .int q t2]) Q E s := by
  obtain ⟨hh, gs, dr, tk, os⟩ := s
  have hfn : isFn (K w.params) (.ref 105) = true := by k_is
  refine wpAny_call ?_
  refine make_core (makes_of X (by k_is)) (looks_findIn X (by k_is)) (fun self => bind_fn X self (beq_iff_eq.mp hfn)) (.inl rfl) ?_
  dsimp only at X T
  have N0 : ∀ p ∈ [(hh.objs.size + 1, instObj 249 hh.objs.size), (hh.objs.size, dictOf [] 0)], ((hh.push emptyDict).push (instObj 249 hh.objs.size)).get? p.1 = some p.2 ∧ hh.get? p.1 = none := by
    intro p hp
    simp only [List.mem_cons, List.not_mem_nil, or_false] at hp
    rcases hp with rfl | rfl
    · refine ⟨?_, noneOf (Nat.le_succ _)⟩
      have e := Heap.get?_push_size (hh.push emptyDict) (show (instObj 249 hh.objs.size).isFreed = false from rfl)
      rwa [Heap.size_push] at e
    · exact ⟨Heap.get?_push_of_some _ (Heap.get?_push_size _ rfl), noneOf (Nat.le_refl _)⟩
  generalize hh2 : (hh.push emptyDict).push (instObj 249 hh.objs.size) = h2 at *
  have K2' : Kept hh h2 := fun b o e => by rw [← hh2]; exact Heap.get?_push_of_some _ (Heap.get?_push_of_some _ e)
  have hs2 : hh.objs.size ≤ h2.objs.size := by rw [← hh2, Heap.size_push, Heap.size_push]; omega
  refine' enterLe (g := hh) (s := ⟨h2, gs, dr, tk, os⟩) K2' hs2 X T N0 ?k6 ?k7 ?k8 ?k9 ?kB ?_ ?c2 ?c3 ?c4 ?c5
  case k6 => k_is
  case k7 => k_is
  case k8 => first | ktr_room | (dsimp only [Ar, Around.under]; omega)
  case k9 => exact BindsTo.of_eq rfl
  case kB => exact locs rfl
  case c2 => exact rfl
  case c3 => exact rfl
  case c4 => exact rfl
  case c5 => decide
  intro L' h' F' N'
  (try dsimp only)
  (try k_fold)
  k_steps

  rename Fr _ _ _ _ => F1
  rename News _ _ _ _ => N1
  exact ⟨rfl, hret _ _ _ _ _ _ _ _ F1.keep (N1.get (by k_mem)) (N1.get (by k_mem)) (Nat.le_refl _) (Nat.lt_succ_self _)⟩
end
section
local macro_rules | `(tactic| walk_at "call ref") => `(tactic| (k_here; (with_reducible show wpAny _ _ (call (Value.ref _) _) _ _ _); refine halt ?_))
example : True := by w_top off; first | walk1 | trivial
section
local macro_rules | `(tactic| walk_at "FnAt") => `(tactic| ((with_reducible rename Fr _ _ _ _ => F'); (with_reducible rename HashAt _ _ _ => H'); exact (HashAt.kept H' (Fr.keep F')).fn))
local macro_rules | `(tactic| walk_at "callWith ref") => `(tactic| (k_here; (with_reducible rename Fr _ _ _ _ => F'); (with_reducible rename HashAt _ _ _ => H'); (refine' callWith_F ?k1 ?_; (case k1 => exact (HashAt.kept H' (Fr.keep F')).fn); k_whole)))
local macro_rules | `(tactic| walk_at "subscriptTail") => `(tactic| (k_here; (with_reducible show wpAny _ _ (subscriptTail _ _ (Value.ref _) (Value.int _ _)) _ _ _); refine halt ?_))
/-- a table of codes as the ledger holds it -/
noncomputable def TabO (o : Obj) : Prop := ∃ ps, o = tabObj ps ∧ TriplesOk ps.toList
theorem TabX.obj {c P : Addr} {h : Heap} (x : TabX c P h) : ∃ o, h.get? P = some o ∧ TabO o :=
  let ⟨ps, ok, q⟩ := x
  ⟨_, q, ps, rfl, codeOk ok⟩
theorem TabO.tab {c P : Addr} {h : Heap} {o : Obj} (x : TabO o) (C : CodeHd h c P) (e : h.get? P = some o) : TabX c P h :=
  let ⟨ps, r1, r2⟩ := x
  ⟨ps, C.code (e.trans (congrArg some r1)) r2, e.trans (congrArg some r1)⟩
noncomputable abbrev bodY : List Stmt := takeF (x := bod63.getD 8 (.Pass ⟨0, 0, 0, 0⟩)) rfl
noncomputable abbrev tgtY : Expr := takeT (x := bod63.getD 8 (.Pass ⟨0, 0, 0, 0⟩)) rfl
noncomputable abbrev envY (L : Addr) : Env := envOf (Str.ofString "expand_message_xmd") sco63 L 63 (.ref 62)
noncomputable abbrev mY (msg mark zp lb dpr b0 : Array UInt8) (t1 t2 t3 t4 t5 t6 t7 t8 t9 t10 : Tok) (f D : Addr) (size d block ell : Int) (iv : Option Value) : Str → Option Value := fun y =>
  if y = Str.ofString "i" then iv else if y = Str.ofString "b" then some (.ref D) else if y = Str.ofString "b_0" then some (.bytes b0 t1) else if y = Str.ofString "l_i_b_str" then some (.bytes lb t2) else if y = Str.ofString "Z_pad" then some (.bytes zp t3) else if y = Str.ofString "DST_prime" then some (.bytes dpr t4) else
  if y = Str.ofString "ell" then some (.int ell t5) else if y = Str.ofString "r_in_bytes" then some (.int block t6) else if y = Str.ofString "b_in_bytes" then some (.int d t7) else if y = Str.ofString "hash_function" then some (.ref f) else if y = Str.ofString "len_in_bytes" then some (.int size t8) else if y = Str.ofString "DST" then some (.bytes mark t9) else if y = Str.ofString "msg" then some (.bytes msg t10) else none
set_option maxHeartbeats 800000 in
theorem exm_turn {g h : Heap} {L I D f : Addr} {oI o51 : Obj} {msg mark zp lb dpr b0 bl : Array UInt8} {t1 t2 t3 t4 t5 t6 t7 t8 t9 t10 tk0 tl : Tok} {size d block ell i : Int} {vs : Array Value} {nv : Nat} {fs es : List Int} {tk : Nat} {gn : Array GenState} {Q : Flow → Shared → Prop}
    (F : Fr g L h (mY msg mark zp lb dpr b0 t1 t2 t3 t4 t5 t6 t7 t8 t9 t10 f D size d block ell (some (.int i tk0)))) (N : News g L h [(I, oI), (D, W.listOf vs nv), (51, o51)]) (hO : TabO o51) (hI : I ≠ 51) (hD : D ≠ 51) (hIne : I ≠ D)
    (X : (K w.params).In g) (T : Top p loose mean mg mb g) (H : HashAt g f d) (h1 : KBw.bInts b0 = fs) (h2 : KBw.bInts dpr = es) (n1 : fs.length ≤ 72) (n2 : es.length ≤ 300) (d0 : 1 ≤ d) (d1 : d ≤ 72) (i0 : 2 ≤ i) (i1 : i ≤ 4) (hvs : vs.size ≤ 4) (hv : vs[(i - 2).toNat]? = some (.bytes bl tl)) (hd : dp + 4 < recursionLimit) (hu : un + 60 < cLine)
    (go : ∀ h' tk' (gn' : GensOf gn) bl' tl' o51' nv', Fr g L h' (mY msg mark zp lb dpr b0 t1 t2 t3 t4 t5 t6 t7 t8 t9 t10 f D size d block ell (some (.int i tk0))) → News g L h' [(I, oI), (D, W.listOf (vs.push (.bytes bl' tl')) nv'), (51, o51')] → TabO o51' → KBw.bInts bl' = hashL d (List.zipWith ixor fs (KBw.bInts bl) ++ bigOct 1 i ++ es) → Q .next ⟨h', gn'.1, s.drawn, tk', s.os⟩) :
    wpAny (model PySem.Challenge.pw_lh0033_01 w) ((Ar dp un gd outer).deeper (envY L)) (execs bodY (envY L)) Q E ⟨h, gn, s.drawn, tk, s.os⟩ := by
  have h51 : g.get? 51 = none := (N (51, o51) (by k_mem)).2.2
  have hL51 : L ≠ 51 := Ne.symm (N (51, o51) (by k_mem)).2.1
  delta bodY takeF envY sco63 takeS mY
  k_steps
  unfold Halt
  rename Fr _ _ _ _ => F1
  rename News _ _ _ _ => N1
  rename HashAt _ _ _ => H
  dsimp only
  refine item_list ⟨_, N1.get (by k_mem), rfl, _, rfl⟩ (by omega) (by omega) hv ?_
  k_steps
  unfold Halt
  rename Fr _ _ _ _ => F1
  rename News _ _ _ _ => N1
  refine xor_spec (s := ⟨_, _, _, _, _⟩) (X.keeps (keptHide2 F1.keep h51)) (T.keeps (keptHide2 F1.keep h51)) (hO.tab ((code55 X).keeps F1.keep) (N1.get (by k_mem))) (by rw [← KBw.ints_length, h1]; exact n1) (by first | ktr_room | (dsimp only [Ar]; omega)) (by first | ktr_room | (dsimp only [Ar]; omega)) fun bz tz hz tkz gz kz xz ez => ?_
  obtain ⟨o51', e51, hO'⟩ := xz.obj
  have F2 := frExt F1 h51 hL51 kz
  have N2 : News g L hz [(I, oI), (D, W.listOf vs nv), (51, o51')] := by
    intro p hp
    simp only [List.mem_cons, List.not_mem_nil, or_false] at hp
    rcases hp with rfl | rfl | rfl
    · exact ⟨kz _ _ hI (N1.get (by k_mem)), (N1 (I, oI) (by k_mem)).2⟩
    · exact ⟨kz _ _ hD (N1.get (by k_mem)), (N1 (D, W.listOf vs nv) (by k_mem)).2⟩
    · exact ⟨e51, Ne.symm hL51, h51⟩
  obtain ⟨zs, hzs⟩ : ∃ zs, zs = zipInts ixor b0 bl := ⟨_, rfl⟩
  have lz : zs.length ≤ 72 := by rw [hzs, zipInts_length]; exact Nat.le_trans (Nat.min_le_left _ _) (by rw [← KBw.ints_length, h1]; exact n1)
  rw [← hzs] at ez
  clear F1 N1
  (try dsimp only at F2 N2)
  k_steps
  unfold Halt
  rename Fr _ _ _ _ => F1
  rename News _ _ _ _ => N1
  refine i2osp_spec (k := 1) (s := ⟨_, _, _, _, _⟩) (X.keeps F1.keep) (T.keeps F1.keep) (by omega) (by decide) (by omega) (by first | ktr_room | (dsimp only [Ar]; omega)) (by first | ktr_room | (dsimp only [Ar]; omega)) fun bi ti hi tki ki ei => ?_
  obtain ⟨is, his⟩ : ∃ is, is = bigOct 1 i := ⟨_, rfl⟩
  have li : is.length = 1 := by rw [his, bigOct_length]
  rw [← his] at ei
  have F2 := frKept F1 ki
  have N2 := newsKept N1 ki
  clear F1 N1
  k_steps
  unfold Halt
  rename Fr _ _ _ _ => F1
  rename News _ _ _ _ => N1
  refine hashed_spec (s := ⟨_, _, _, _, _⟩) (X.keeps F1.keep) (T.keeps F1.keep) (H.kept F1.keep) (by assumption) ?len d0 d1 (by first | ktr_room | (dsimp only [Ar]; omega)) fun bh th hh tkh kh eh => ?_
  case len => simp; omega
  have F2 := frKept F1 kh
  have N2 := newsKept N1 kh
  clear F1 N1
  k_steps
  rename Fr _ _ _ _ => F1
  rename News _ _ _ _ => N1
  have hDn := N1 (D, W.listOf vs nv) (by k_mem)
  have hID : I ≠ D := hIne
  refine append_at (hsz := by rw [sizeLine_eq]; omega) (N1.get (by k_mem)) fun h7 s7 e7 => ?_
  dsimp only
  have F2 := frExt F1 hDn.2.2 (Ne.symm hDn.2.1) s7.extBut
  refine wpAny_execs_nil (go _ _ gz bh th o51' (nv + 1) F2 ?_ hO' (by rw [eh, hzs, his, zipInts, h1]))
  intro p hp
  simp only [List.mem_cons, List.not_mem_nil, or_false] at hp
  rcases hp with rfl | rfl | rfl
  · exact ⟨s7.extBut _ _ hID (N1.get (by k_mem)), (N1 (I, oI) (by k_mem)).2⟩
  · exact ⟨e7, hDn.2⟩
  · exact ⟨s7.extBut _ _ (Ne.symm hD) (N1.get (by k_mem)), Ne.symm hL51, h51⟩
end
example : True := by w_top off; first | walk1 | trivial
section
/-- the blocks still to come -/
noncomputable def blksL (d : Int) (fs es : List Int) : Nat → Int → List Int → List (List Int)
  | 0, _, _ => []
  | m + 1, i, last => let l' := hashL d (List.zipWith ixor fs last ++ bigOct 1 i ++ es); l' :: blksL d fs es m (i + 1) l'
theorem mY_i {msg mark zp lb dpr b0 : Array UInt8} {t1 t2 t3 t4 t5 t6 t7 t8 t9 t10 : Tok} {f D : Addr} {size d block ell : Int} {iv : Option Value} {v : Value} :
    (fun y => if y = Str.ofString "i" then some v else mY msg mark zp lb dpr b0 t1 t2 t3 t4 t5 t6 t7 t8 t9 t10 f D size d block ell iv y) = mY msg mark zp lb dpr b0 t1 t2 t3 t4 t5 t6 t7 t8 t9 t10 f D size d block ell (some v) := by
  funext y
  by_cases e1 : y = Str.ofString "i"
  · subst e1; rfl
  · simp only [mY, if_neg e1]
set_option maxHeartbeats 400000 in
theorem exm_loop {g : Heap} {L I D f : Addr} {msg mark zp lb dpr b0 : Array UInt8} {t1 t2 t3 t4 t5 t6 t7 t8 t9 t10 : Tok} {size d block ell : Int} {fs es : List Int} {R : Result → Shared → Prop} (m : Nat) :
    ∀ {h : Heap} {bl : Array UInt8} {tl : Tok} {iv : Option Value} {vs : List Value} {nv : Nat} {o51 : Obj} {tk : Nat} {gn : Array GenState} {i : Int} {s : Shared},
    Fr g L h (mY msg mark zp lb dpr b0 t1 t2 t3 t4 t5 t6 t7 t8 t9 t10 f D size d block ell iv) → News g L h [(I, rangeIt i (m : Int)), (D, W.listOf vs.toArray nv), (51, o51)] → TabO o51 → I ≠ 51 → D ≠ 51 → I ≠ D →
    (K w.params).In g → Top p loose mean mg mb g → HashAt g f d → KBw.bInts b0 = fs → KBw.bInts dpr = es → fs.length ≤ 72 → es.length ≤ 300 → 1 ≤ d → d ≤ 72 → 2 ≤ i → i + m ≤ 5 → vs.length = (i - 1).toNat → vs[(i - 2).toNat]? = some (.bytes bl tl) → dp + 4 < recursionLimit → un + 60 < cLine →
    (∀ h' tk' (gn' : GensOf gn) iv' (nl : List (Array UInt8 × Tok)) nv' o51', Fr g L h' (mY msg mark zp lb dpr b0 t1 t2 t3 t4 t5 t6 t7 t8 t9 t10 f D size d block ell iv') → News g L h' [(D, W.listOf (vs ++ nl.map fun p => Value.bytes p.1 p.2).toArray nv'), (51, o51')] → TabO o51' → (nl.map fun p => KBw.bInts p.1) = blksL d fs es m i (KBw.bInts bl) → R (.ok .next) ⟨h', gn'.1, s.drawn, tk', s.os⟩) →
    codeAny (model PySem.Challenge.pw_lh0033_01 w) ((Ar dp un gd outer).deeper (envY L)) (.forLoop tgtY (.ref I) bodY [] (envY L)) R ⟨h, gn, s.drawn, tk, s.os⟩ := by
  induction m with
  | zero =>
    intro h bl tl iv vs nv o51 tk gn i s F N hO hI hD hID X T H h1 h2 n1 n2 d0 d1 i0 i1 hvs hv hd hu go
    refine codeA_forTurn ?_
    refine wpAny_pyNext_range_end (s := ⟨_, _, _, _, _⟩) rfl (N.get (by k_mem)) (by decide) fun h' e => ?_
    have hI := N (I, rangeIt i ((0 : Nat) : Int)) (by k_mem)
    have F3 := frExt F hI.2.2 (Ne.symm hI.2.1) e
    refine wpAny_execs_nil (go _ _ .same _ [] nv o51 F3 ?nn hO rfl)
    case nn =>
      rw [List.map_nil, List.append_nil]
      intro p hp
      simp only [List.mem_cons, List.not_mem_nil, or_false] at hp
      rcases hp with rfl | rfl
      · exact ⟨e _ _ (Ne.symm hID) (N.get (by k_mem)), (N (D, W.listOf vs.toArray nv) (by k_mem)).2⟩
      · exact ⟨e _ _ (Ne.symm ‹I ≠ 51›) (N.get (by k_mem)), (N (51, o51) (by k_mem)).2⟩
  | succ m ih =>
    intro h bl tl iv vs nv o51 tk gn i s F N hO hI51 hD hID X T H h1 h2 n1 n2 d0 d1 i0 i1 hvs hv hd hu go
    refine codeA_forTurn ?_
    refine wpAny_pyNext_range_item (s := ⟨_, _, _, _, _⟩) (N.get (by k_mem)) (by omega) fun h' e sb => ?_
    dsimp only
    have hI := N (I, rangeIt i ((m + 1 : Nat) : Int)) (by k_mem)
    have F3 := frExt F hI.2.2 (Ne.symm hI.2.1) sb.extBut
    have N3 : News g L h' [(I, rangeIt (i + 1) (m : Int)), (D, W.listOf vs.toArray nv), (51, o51)] := by
      refine newsBut N ?_ sb.extBut ?_
      · rwa [show ((m + 1 : Nat) : Int) - 1 = (m : Int) by omega] at e
      · intro p hp
        simp only [List.mem_cons, List.not_mem_nil, or_false] at hp
        rcases hp with rfl | rfl
        · exact Ne.symm hID
        · exact Ne.symm hI51
    delta tgtY takeT
    refine wpAny_assign_Name (stN (s := ⟨_, _, _, _, _⟩) F3 N3 fun h4 F4 N4 => ?_)
    refine exm_turn (s := s) (frEq F4 mY_i) N4 hO hI51 hD hID X T H h1 h2 n1 n2 d0 d1 i0 (by omega) (by simp; omega) (by simpa using hv) hd hu fun h5 tk5 gn5 bl5 tl5 o51' nv5 F5 N5 hO5 hl5 => ?_
    dsimp only
    rw [List.push_toArray] at N5
    refine ih (bl := bl5) (tl := tl5) (s := s) F5 N5 hO5 hI51 hD hID X T H h1 h2 n1 n2 d0 d1 (by omega) (by omega) (by simp; omega) ?_ hd hu fun h6 tk6 gn6 iv6 nl nv6 o516 F6 N6 hO6 hx6 => ?_
    · rw [List.getElem?_append_right (by omega), show (i + 1 - 2).toNat - vs.length = 0 by omega]; rfl
    · refine go _ _ (gn5.trans gn6) _ ((bl5, tl5) :: nl) nv6 o516 F6 ?_ hO6 ?_
      · rw [List.append_assoc] at N6
        exact N6
      · rw [List.map_cons, hx6, blksL, hl5]
end
example : True := by w_top off; first | walk1 | trivial
section
local macro_rules | `(tactic| walk_at "FnAt") => `(tactic| ((with_reducible rename Fr _ _ _ _ => F'); (with_reducible rename HashAt _ _ _ => H'); exact (HashAt.kept H' (Fr.keep F')).fn))
local macro_rules | `(tactic| walk_at "callWith ref") => `(tactic| (k_here; (with_reducible rename Fr _ _ _ _ => F'); (with_reducible rename HashAt _ _ _ => H'); (refine' callWith_F ?k1 ?_; (case k1 => exact (HashAt.kept H' (Fr.keep F')).fn); k_whole)))
local macro_rules | `(tactic| walk_at "exec For Name Call cons nil") => `(tactic| (k_here; refine halt ?_))
local macro_rules | `(tactic| walk_at "call builtin:bytes.join") => `(tactic| (k_here; refine halt ?_))
local macro_rules | `(tactic| walk_at "pyIter ref") => `(tactic| (k_here; refine halt ?_))
set_option maxHeartbeats 400000 in
theorem exm_for {g h : Heap} {L D f : Addr} {msg mark zp lb dpr b0 b1 : Array UInt8} {t1 t2 t3 t4 t5 t6 t7 t8 t9 t10 tl : Tok} {size d block ell : Int} {fs es : List Int} {nv : Nat} {o51 : Obj} {tk : Nat} {gn : Array GenState} {Q : Flow → Shared → Prop}
    (F : Fr g L h (mY msg mark zp lb dpr b0 t1 t2 t3 t4 t5 t6 t7 t8 t9 t10 f D size d block ell none)) (N : News g L h [(D, W.listOf #[.bytes b1 tl] nv), (51, o51)]) (hO : TabO o51) (hD : D ≠ 51)
    (X : (K w.params).In g) (T : Top p loose mean mg mb g) (H : HashAt g f d) (h1 : KBw.bInts b0 = fs) (h2 : KBw.bInts dpr = es) (n1 : fs.length ≤ 72) (n2 : es.length ≤ 300) (d0 : 1 ≤ d) (d1 : d ≤ 72) (k0 : 0 ≤ ell) (k1 : ell ≤ 3) (hd : dp + 4 < recursionLimit) (hu : un + 60 < cLine)
    (go : ∀ h' tk' (gn' : GensOf gn) iv' (nl : List (Array UInt8 × Tok)) nv' o51', Fr g L h' (mY msg mark zp lb dpr b0 t1 t2 t3 t4 t5 t6 t7 t8 t9 t10 f D size d block ell iv') → News g L h' [(D, W.listOf (.bytes b1 tl :: nl.map fun p => Value.bytes p.1 p.2).toArray nv'), (51, o51')] → TabO o51' → (nl.map fun p => KBw.bInts p.1) = blksL d fs es (ell - 1).toNat 2 (KBw.bInts b1) → Q .next ⟨h', gn'.1, s.drawn, tk', s.os⟩) :
    wpAny (model PySem.Challenge.pw_lh0033_01 w) ((Ar dp un gd outer).deeper (envY L)) (exec (bod63.getD 8 (.Pass ⟨0, 0, 0, 0⟩)) (envY L)) Q E ⟨h, gn, s.drawn, tk, s.os⟩ := by
  show wpAny _ _ (exec (.For tgtY _ bodY [] _) _) _ _ _
  refine wpAny_For ?_
  delta bodY tgtY takeT takeF envY sco63 takeS mY
  k_steps
  unfold Halt
  rename Fr _ _ _ _ => F3
  rename News _ _ _ _ => N3
  rename IsRange _ _ _ _ _ _ _ _ => R1
  refine wpAny_pyIter_range (s := ⟨_, _, _, _, _⟩) R1 (small_one (by decide) (by decide) (by omega) (by omega)) ?_
  rw [rangeSize_nat, show ell + 1 - 2 = ell - 1 by omega]
  (try dsimp only)
  refine codeA_push rfl fun h4 hk4 ht4 hs4 => ?_
  have F4 := frKept F3 hk4
  have N4 := newsTop F3 N3 hk4 ht4
  (try dsimp only at N4)
  have lD := Heap.lt_size (N3.get (a := D) (o := W.listOf #[.bytes b1 tl] nv) (by k_mem))
  have l51 := Heap.lt_size (N3.get (a := 51) (o := o51) (by k_mem))
  refine exm_loop (s := s) (vs := [.bytes b1 tl]) (bl := b1) (tl := tl) (i := 2) (ell - 1).toNat F4 (by exact N4) hO (Nat.ne_of_gt l51) hD (Nat.ne_of_gt lD) X T H h1 h2 n1 n2 d0 d1 (by decide) (by omega) rfl rfl hd hu ?_
  intro h5 tk5 gn5 iv5 nl nv5 o515 F5 N5 hO5 hx5
  exact go _ _ _ _ _ _ _ F5 N5 hO5 hx5
end
example : True := by w_top off; first | walk1 | trivial
section
open PySem PySem.W PyProof.Rows PySem.Calls PySem.Spec
set_option Elab.async false
set_option maxRecDepth 100000
theorem dict_ns {h : Heap} {a : Addr} {m : Str → Option Value} (x : h.Ns a m) : ∃ o, h.get? a = some o ∧ ∀ vs, o.data ≠ .fields vs := by
  obtain ⟨o, es, ep, ho, hd, _⟩ := x
  exact ⟨o, ho, fun vs q => by rw [hd] at q; cases q⟩
section
variable {prog : Program} {w : World} {A : Around} {E E' : Value → Shared → Prop} {s : Shared} {B h h2 : Heap} {L1 L2 a1 a2 e Lo : Addr} {m1 m2 : Str → Option Value} {n1 n2 : Str} {s1 s2 : Scope} {cd1 cd2 : Value} {eo : Env} {oLo : Obj}
  {Kf : Frag} {p : Program} {loose : List Str} {mean : ExcName → Option Value} {mg mb : Str → Option Value} {np pos : Pos} {b₀ : Stmt} {suite : List Stmt} {rest : List ExceptHandler} {Q : Flow → Shared → Prop}
/-- a ValueError raised in a def and caught in the def that called it, called from one def more -/
theorem raise_caught (hfr : A.frames = some [eo]) (heo : eo.frame = some Lo) (hko : eo.scope.kind ≠ .module) (hdo : ∀ vs, oLo.data ≠ .fields vs)
    (F1 : Fr B L1 h m1) (N1 : News B L1 h [(Lo, oLo)]) (F2 : Fr h L2 h2 m2) (hx : Heap.NewExc h2 s.heap e "ValueError") (X : Kf.In B) (T : Top p loose mean mg mb B) (ex : nsIn Kf mainGlobals (Str.ofString "ValueError") = some none)
    (k : ∀ h7, B.StaysIn h7 → (∃ sl, h7.get? Lo = some { oLo with slots := sl }) → Fr B L1 h7 m1 →
      wpAny (model prog w) ((A.deeper (envOf n1 s1 L1 a1 cd1)).mark (some (.ref e))) (execs (b₀ :: suite) (envOf n1 s1 L1 a1 cd1)) Q E { s with heap := h7 })
    (hk1 : s1.kind = .function := by rfl) (hk2 : s2.kind = .function := by rfl) (hgl : (envOf n1 s1 L1 a1 cd1).kindOf (Str.ofString "ValueError") = some .globalImplicit := by rfl)
    (hE : PassesOwnAt (model prog w) ((A.deeper (envOf n1 s1 L1 a1 cd1)).mark (some (.ref e))) (A.deeper (envOf n1 s1 L1 a1 cd1)) (envOf n1 s1 L1 a1 cd1) E := by passes_own) :
    wpAny (model prog w) ((A.deeper (envOf n1 s1 L1 a1 cd1)).deeper (envOf n2 s2 L2 a2 cd2)) (leaving (envOf n2 s2 L2 a2 cd2) (.ref e))
      (fun _ s'' => wpAny (model prog w) (A.deeper (envOf n1 s1 L1 a1 cd1)) (noteFrame (.ref e) (envOf n1 s1 L1 a1 cd1))
        (fun _ s₂ => wpAny (model prog w) (A.deeper (envOf n1 s1 L1 a1 cd1)) (setFlight (.ref e) none) (fun _ s₃ =>
          wpAny (model prog w) (A.deeper (envOf n1 s1 L1 a1 cd1)) (handleBy (.ref e) (envOf n1 s1 L1 a1 cd1) (.ExceptHandler (some (.Name (Str.ofString "ValueError") np)) none (b₀ :: suite) pos :: rest)) Q E s₃) E s₂) E s'') E' s := by
  obtain ⟨oL1, hL1, hd1⟩ := dict_ns F1.ns
  obtain ⟨oL2, hL2, hd2⟩ := dict_ns F2.ns
  obtain ⟨oe, t0, he, hcls, hdat⟩ := hx.there
  have kB2 : B.StaysIn h2 := fun b o q => F2.keep _ _ (F1.keep _ _ q)
  have kB : B.StaysIn s.heap := fun b o q => hx.keeps _ _ (kB2 _ _ q)
  have nL1 : B.get? L1 = none := noneOf F1.above
  have nL2 : B.get? L2 = none := by
    cases q : B.get? L2 with
    | none => rfl
    | some o => exact absurd (Heap.lt_size (F1.keep _ _ q)) (Nat.not_lt.mpr F2.above)
  have ne : B.get? e = none := by
    cases q : B.get? e with
    | none => rfl
    | some o => have := hx.new; rw [kB2 _ _ q] at this; cases this
  have hLo := N1 (Lo, oLo) (by k_mem)
  have FF : s.heap.FunFrames B (envOf n2 s2 L2 a2 cd2 :: envOf n1 s1 L1 a1 cd1 :: [eo]) :=
    ⟨by show s2.kind ≠ _; rw [hk2]; decide, ⟨L2, oL2, rfl, nL2, hx.keeps _ _ hL2, hd2⟩, by show s1.kind ≠ _; rw [hk1]; decide, ⟨L1, oL1, rfl, nL1, hx.keeps _ _ (F2.keep _ _ hL1), hd1⟩,
      hko, ⟨Lo, oLo, heo, hLo.2.2, hx.keeps _ _ (F2.keep _ _ hLo.1), hdo⟩, trivial⟩
  have frs1 : (A.deeper (envOf n1 s1 L1 a1 cd1)).frames = some [envOf n1 s1 L1 a1 cd1, eo] := Around.frames_deeper hfr
  refine wpAny_leaving_firstW (base := B) (Around.frames_deeper frs1) FF rfl he kB ne hdat rfl rfl fun h4 L4 => ?_
  have fl4 : Heap.FlyingW B [envOf n1 s1 L1 a1 cd1, eo] e oe.cls t0 h4 := ⟨L4.1, ne, L4.2.1.2.2, L4.2.2.1⟩
  have u4 : s.heap.UpToSlots h4 := L4.2.2.2
  refine wpAny_looks_onW (s := ⟨h4, _, _, _, _⟩) frs1 rfl fl4 fun h5 hheld u5 => ?_
  refine wpAny_landsW (s := ⟨h5, _, _, _, _⟩) hheld fun h6 fl6 u6 => ?_
  have u06 : s.heap.UpToSlots h6 := (u4.trans u5).trans u6
  have F6 : Fr B L1 h6 m1 := Fr.of_stays (frKept (frKept F1 F2.keep) hx.keeps) fl6.1 u06
  obtain ⟨ob, hob, hobc⟩ := fl6.there
  refine wpAny_handleBy_builtin (X := "ValueError") (T := "ValueError") (b := true) PySem.F.isExc_ValueError PySem.F.notTuple_ValueError (by rw [isSubtype_type]; kernel_rfl)
    (name_B (s := ⟨h6, _, _, _, _⟩) F6 X (topRead_of T) ex PyProof.Rows.Boot.«ValueError» (by decide) ⟨rfl, ⟨ob, hob, hobc.trans hcls⟩, ?_⟩ hk1 hgl)
  refine lands_againW (s := ⟨h6, _, _, _, _⟩) fl6 fun h7 fl7 u7 => ?_
  have u07 := u06.trans u7
  refine wpAny_passesOwnAt hE (k h7 fl7.1 (u07 _ _ (hx.keeps _ _ (F2.keep _ _ hLo.1)) hdo) (Fr.of_stays (frKept (frKept F1 F2.keep) hx.keeps) fl7.1 u07))
end
end
example : True := by w_top off; first | walk1 | trivial
section
/-- the table of the law's own hash: empty, or filled once -/
noncomputable def TabH (h : Heap) : Prop := h.get? 421 = some (tabObj #[]) ∨ ∃ c' o2 vs t2, h.get? 421 = some (tabObj (triple c')) ∧ h.get? c' = some o2 ∧ c' ≠ 421 ∧ o2.data = .fields vs ∧ vs[1]? = some (.str qualH t2)
theorem TabH.old {h : Heap} (x : TabH h) : 421 < h.objs.size := by
  rcases x with x | ⟨c', o2, vs, t2, a, _⟩
  · exact Heap.lt_size x
  · exact Heap.lt_size a
theorem TabH.obj {h : Heap} (x : TabH h) : ∃ ps, h.get? 421 = some (tabObj ps) := by
  rcases x with x | ⟨c', o2, vs, t2, a, _⟩
  · exact ⟨_, x⟩
  · exact ⟨_, a⟩
/-- the table where all but itself is kept -/
theorem TabH.hidden {h h' : Heap} {ps : Array Value} (x : TabH h) (k : Kept (h.hide 421) h') (e : h'.get? 421 = some (tabObj ps)) (e0 : h.get? 421 = some (tabObj ps)) : TabH h' := by
  rcases x with x | ⟨c', o2, vs, t2, a, b, hne, r⟩
  · rw [x] at e0; rw [← e0] at e; exact .inl e
  · rw [a] at e0; rw [← e0] at e; exact .inr ⟨c', o2, vs, t2, e, k _ _ ((Heap.hide_ne h hne).trans b), hne, r⟩
/-- the table, filled -/
noncomputable def HitH (n : Nat) (h : Heap) : Prop := ∃ c' o2 vs t2, n ≤ c' ∧ h.get? 421 = some (tabObj (triple c')) ∧ h.get? c' = some o2 ∧ c' ≠ 421 ∧ o2.data = .fields vs ∧ vs[1]? = some (.str qualH t2)
theorem HitH.tab {n : Nat} {h : Heap} (x : HitH n h) : TabH h := by
  obtain ⟨c', o2, vs, t2, _, r⟩ := x
  exact .inr ⟨c', o2, vs, t2, r⟩
local macro_rules | `(tactic| walk_at "callWith ref") => `(tactic| (k_here; k_dflt (refine' callWith_F ?k1 ?_; (case k1 => exact FnAt.of (by k_asm) (by k_mem)); k_whole)))
local macro_rules | `(tactic| walk_at "call type:bytes") => `(tactic| (k_here; (with_reducible show wpAny _ _ (call (Value.type "bytes") [Value.bytes _ _]) _ _ _); refine bytesOfBytes ?_))
theorem keyed_end {b : Array UInt8} {ks ls : List Int} (h : KBw.bInts b = hashL 32 (List.map (fun c => ((c.toNat : Nat) : Int)) [((ks.length : Int)).toNat.toUInt8] ++ ks ++ ls)) (n : ks.length ≤ 72) : KBw.bInts b = hashL 32 ((ks.length : Int) :: (ks ++ ls)) := by
  have e := KBa.ints_make (ns := [(ks.length : Int)]) (fun k hk => by rcases List.mem_singleton.mp hk with rfl; omega)
  change List.map (fun c => ((c.toNat : Nat) : Int)) [((ks.length : Int)).toNat.toUInt8] = _ at e
  rw [h, e]
  simp
set_option maxHeartbeats 800000 in
theorem keyed_miss {b1 b2 : Array UInt8} {ks ls : List Int} {t1 t2 : Tok}
    (X : (K w.params).In (s.heap.hide 421)) (T : Top p loose mean mg mb (s.heap.hide 421)) (hP : s.heap.get? 421 = some (tabObj #[])) (h1 : KBw.bInts b1 = ks) (h2 : KBw.bInts b2 = ls) (n1 : ks.length ≤ 72) (n2 : ls.length ≤ 72) (hd : dp + 2 < recursionLimit)
    (hret : ∀ (b : Array UInt8) (t : Tok) (h' : Heap) (tk' : Nat), Heap.ExtBut 421 s.heap h' → HitH s.heap.objs.size h' → KBw.bInts b = hashL 32 ((ks.length : Int) :: (ks ++ ls)) → Q (.bytes b t) { s with heap := h', toks := tk' }) :
    wpAny (model PySem.Challenge.pw_lh0033_01 w) (Ar dp un gd outer) (call (.ref 433) [.bytes b1 t1, .bytes b2 t2]) Q E s := by
  have N0 : ∀ p ∈ [((421 : Addr), tabObj #[])], s.heap.get? p.1 = some p.2 ∧ (s.heap.hide 421).get? p.1 = none := fun p hp => by
    rcases List.mem_singleton.mp hp with rfl
    exact ⟨hP, Heap.hide_self _ _⟩
  have hold : 421 < s.heap.objs.size := Heap.lt_size hP
  (refine wpAny_call ?_; k_dflt (refine' enter (g := Heap.hide _ 421) ?g1 ?g2 ?k3 ?k5 ?kN ?k6 ?k7 ?k8 ?k9 ?kB ?_ ?c2 ?c3 ?c4 ?c5; (case g1 => exact keptHide _ _); (case g2 => exact Heap.hide_size _ _); (case k3 => k_asm); (case k5 => k_asm); (case kN => assumption); (case k6 => k_is); (case k7 => k_is); (case k8 => first | ktr_room | (dsimp only [Ar]; omega)); (case k9 => exact BindsTo.of_eq rfl); (case c5 => decide); (case kB => exact locs rfl); (case c2 => exact rfl); (case c3 => exact rfl); (case c4 => exact rfl); k_whole; intro L' h' F' N'; (try dsimp only); (try k_fold)))
  k_steps
  unfold Halt
  rename Fr _ _ _ _ => F1
  rename News _ _ _ _ => N1
  have hab := F1.above
  rw [Heap.hide_size] at hab
  have hL := F1.ns.lt
  have hne : 421 ≠ _ := Nat.ne_of_lt (Nat.lt_of_lt_of_le hold hab)
  refine law_hash_miss (X.keeps (keptHide2 F1.keep (Heap.hide_self _ _))) (T.keeps (keptHide2 F1.keep (Heap.hide_self _ _))) (N1.get (by k_mem)) (by first | (dsimp only [Ar]; omega) | omega) fun f cc c' o1 o2 vs t t2 ctv doc pm h' tk' hx e1 e2 e3 e4 e5 e6 e7 l1 l2 l3 => ?_
  have F2 := frExt F1 (Heap.hide_self _ _) (Ne.symm hne) hx
  have N2 := newsCons' e1 hne (Heap.hide_self s.heap _) (newsCons e2 (Nat.lt_trans (Nat.lt_of_lt_of_le hL l1) (Nat.lt_trans l2 l3)) (by rw [Heap.hide_size]; exact Nat.le_trans (Nat.le_of_lt (Nat.lt_of_le_of_lt hab hL)) (Nat.le_trans l1 (Nat.le_of_lt (Nat.lt_trans l2 l3))))
    (newsCons e3 (Nat.lt_of_lt_of_le hL l1) (by rw [Heap.hide_size]; exact Nat.le_trans (Nat.le_of_lt (Nat.lt_of_le_of_lt hab hL)) l1)
    (newsCons e5 (Nat.lt_of_lt_of_le hL (Nat.le_trans l1 (Nat.le_of_lt l2))) (by rw [Heap.hide_size]; exact Nat.le_trans (Nat.le_of_lt (Nat.lt_of_le_of_lt hab hL)) (Nat.le_trans l1 (Nat.le_of_lt l2))) (newsNil F2))))
  have hc'1 : c' ≠ 421 := fun e => absurd (Nat.lt_of_le_of_lt l1 l2) (by rw [e]; exact Nat.not_lt.mpr (Nat.le_trans (Nat.le_of_lt (Nat.lt_of_lt_of_le hold hab)) (Nat.le_of_lt hL)))
  clear N1 F1
  k_steps
  unfold Halt
  rename Fr _ _ _ _ => F3
  rename News _ _ _ _ => N3
  refine hashed_spec (X.keeps F3.keep) (T.keeps F3.keep) ⟨cc, o1, t, c', ctv, doc, pm, N3.get (by k_mem), N3.get (by k_mem), e4, ⟨c', o2, vs, t2, rfl, N3.get (by k_mem), e6, e7⟩⟩ (by assumption) ?len (by decide) (by decide) (by first | (dsimp only [Ar]; omega) | omega) fun b' t' h'' tk'' hK hb' => ?_
  case len => simp; omega
  ((try dsimp only); (try k_unfold); (try dsimp only))
  refine hret _ _ _ _ (fun b o hb e => hK _ _ (F3.keep _ _ ((Heap.hide_ne _ hb).trans e))) ⟨c', o2, vs, t2, Nat.le_trans hab (Nat.le_trans (Nat.le_of_lt hL) (Nat.le_trans l1 (Nat.le_of_lt l2))), hK _ _ (N3.get (by k_mem)), hK _ _ (N3.get (by k_mem)), hc'1, e6, e7⟩ ?_
  exact keyed_end hb' n1
set_option maxHeartbeats 800000 in
theorem keyed_hit {b1 b2 : Array UInt8} {ks ls : List Int} {t1 t2 : Tok} {c' : Addr} {o2 : Obj} {vs : Array Value} {t3 : Tok}
    (X : (K w.params).In (s.heap.hide 421)) (T : Top p loose mean mg mb (s.heap.hide 421)) (hP : s.heap.get? 421 = some (tabObj (triple c'))) (hc2 : s.heap.get? c' = some o2) (hne' : c' ≠ 421) (hd2 : o2.data = .fields vs) (hv2 : vs[1]? = some (.str qualH t3))
    (h1 : KBw.bInts b1 = ks) (h2 : KBw.bInts b2 = ls) (n1 : ks.length ≤ 72) (n2 : ls.length ≤ 72) (hd : dp + 2 < recursionLimit)
    (hret : ∀ (b : Array UInt8) (t : Tok) (h' : Heap) (tk' : Nat), Kept s.heap h' → KBw.bInts b = hashL 32 ((ks.length : Int) :: (ks ++ ls)) → Q (.bytes b t) { s with heap := h', toks := tk' }) :
    wpAny (model PySem.Challenge.pw_lh0033_01 w) (Ar dp un gd outer) (call (.ref 433) [.bytes b1 t1, .bytes b2 t2]) Q E s := by
  have N0 : ∀ p ∈ [((421 : Addr), tabObj (triple c'))], s.heap.get? p.1 = some p.2 ∧ (s.heap.hide 421).get? p.1 = none := fun p hp => by
    rcases List.mem_singleton.mp hp with rfl
    exact ⟨hP, Heap.hide_self _ _⟩
  have hold : 421 < s.heap.objs.size := Heap.lt_size hP
  have hcb : (s.heap.hide 421).get? c' = some o2 := (Heap.hide_ne _ hne').trans hc2
  (refine wpAny_call ?_; k_dflt (refine' enter (g := Heap.hide _ 421) ?g1 ?g2 ?k3 ?k5 ?kN ?k6 ?k7 ?k8 ?k9 ?kB ?_ ?c2 ?c3 ?c4 ?c5; (case g1 => exact keptHide _ _); (case g2 => exact Heap.hide_size _ _); (case k3 => k_asm); (case k5 => k_asm); (case kN => assumption); (case k6 => k_is); (case k7 => k_is); (case k8 => first | ktr_room | (dsimp only [Ar]; omega)); (case k9 => exact BindsTo.of_eq rfl); (case c5 => decide); (case kB => exact locs rfl); (case c2 => exact rfl); (case c3 => exact rfl); (case c4 => exact rfl); k_whole; intro L' h' F' N'; (try dsimp only); (try k_fold)))
  k_steps
  unfold Halt
  rename Fr _ _ _ _ => F1
  rename News _ _ _ _ => N1
  have hab := F1.above
  rw [Heap.hide_size] at hab
  have hL := F1.ns.lt
  have hne : 421 ≠ _ := Nat.ne_of_lt (Nat.lt_of_lt_of_le hold hab)
  refine law_hash_hit (X.keeps (keptHide2 F1.keep (Heap.hide_self _ _))) (T.keeps (keptHide2 F1.keep (Heap.hide_self _ _))) (N1.get (by k_mem)) (F1.keep _ _ hcb) hne' hd2 hv2 (by first | (dsimp only [Ar]; omega) | omega) fun f cc o1 t ctv doc pm h' tk' hx e2 e3 e4 l1 l2 => ?_
  have F2 := frExt F1 (Heap.hide_self _ _) (Ne.symm hne) (fun b o _ e => hx b o e)
  have N2 := newsCons' (hx _ _ (N1.get (by k_mem))) hne (Heap.hide_self s.heap _) (newsCons e2 (Nat.lt_trans (Nat.lt_of_lt_of_le hL l1) l2) (by rw [Heap.hide_size]; exact Nat.le_trans (Nat.le_of_lt (Nat.lt_of_le_of_lt hab hL)) (Nat.le_trans l1 (Nat.le_of_lt l2)))
    (newsCons e3 (Nat.lt_of_lt_of_le hL l1) (by rw [Heap.hide_size]; exact Nat.le_trans (Nat.le_of_lt (Nat.lt_of_le_of_lt hab hL)) l1) (newsNil F2)))
  clear N1 F1
  k_steps
  unfold Halt
  rename Fr _ _ _ _ => F3
  rename News _ _ _ _ => N3
  refine hashed_spec (X.keeps F3.keep) (T.keeps F3.keep) ⟨cc, o1, t, c', ctv, doc, pm, N3.get (by k_mem), N3.get (by k_mem), e4, ⟨c', o2, vs, t3, rfl, F3.keep _ _ hcb, hd2, hv2⟩⟩ (by assumption) ?len (by decide) (by decide) (by first | (dsimp only [Ar]; omega) | omega) fun b' t' h'' tk'' hK hb' => ?_
  case len => simp; omega
  ((try dsimp only); (try k_unfold); (try dsimp only))
  refine hret _ _ _ _ (fun b o e => ?_) ?_
  · by_cases hb : b = 421
    · subst hb
      rw [hP] at e
      cases e
      exact hK _ _ (N3.get (by k_mem))
    · exact hK _ _ (F3.keep _ _ ((Heap.hide_ne _ hb).trans e))
  exact keyed_end hb' n1
theorem keyed_spec {b1 b2 : Array UInt8} {ks ls : List Int} {t1 t2 : Tok}
    (X : (K w.params).In (s.heap.hide 421)) (T : Top p loose mean mg mb (s.heap.hide 421)) (hT : TabH s.heap) (h1 : KBw.bInts b1 = ks) (h2 : KBw.bInts b2 = ls) (n1 : ks.length ≤ 72) (n2 : ls.length ≤ 72) (hd : dp + 2 < recursionLimit)
    (hret : ∀ (b : Array UInt8) (t : Tok) (h' : Heap) (tk' : Nat), Heap.ExtBut 421 s.heap h' → TabH h' → KBw.bInts b = hashL 32 ((ks.length : Int) :: (ks ++ ls)) → Q (.bytes b t) { s with heap := h', toks := tk' }) :
    wpAny (model PySem.Challenge.pw_lh0033_01 w) (Ar dp un gd outer) (call (.ref 433) [.bytes b1 t1, .bytes b2 t2]) Q E s := by
  rcases hT with hP | ⟨c', o2, vs, t3, hP, hc2, hne, hd2, hv2⟩
  · exact keyed_miss X T hP h1 h2 n1 n2 hd fun b t h' tk' k x e => hret b t h' tk' k x.tab e
  · exact keyed_hit X T hP hc2 hne hd2 hv2 h1 h2 n1 n2 hd fun b t h' tk' k e => hret b t h' tk' (fun b o _ q => k b o q) (.inr ⟨c', o2, vs, t3, k _ _ hP, k _ _ hc2, hne, hd2, hv2⟩) e
end
example : True := by w_top off; first | walk1 | trivial
section
set_option maxHeartbeats 800000 in
theorem extract_spec {b1 b2 : Array UInt8} {ks ls : List Int} {t1 t2 : Tok}
    (X : (K w.params).In (s.heap.hide 421)) (T : Top p loose mean mg mb (s.heap.hide 421)) (hT : TabH s.heap) (h1 : KBw.bInts b1 = ks) (h2 : KBw.bInts b2 = ls) (n1 : ks.length ≤ 72) (n2 : ls.length ≤ 72) (hd : dp + 3 < recursionLimit)
    (hret : ∀ (b : Array UInt8) (t : Tok) (h' : Heap) (tk' : Nat), Heap.ExtBut 421 s.heap h' → TabH h' → KBw.bInts b = hashL 32 ((ks.length : Int) :: (ks ++ ls)) → Q (.bytes b t) { s with heap := h', toks := tk' }) :
    wpAny (model PySem.Challenge.pw_lh0033_01 w) (Ar dp un gd outer) (call (.ref 28) [.bytes b1 t1, .bytes b2 t2, .ref 433]) Q E s := by
  obtain ⟨o421, ho⟩ : ∃ ps, s.heap.get? 421 = some (tabObj ps) := hT.obj
  have hold := hT.old
  have N0 : ∀ p ∈ [((421 : Addr), tabObj o421)], s.heap.get? p.1 = some p.2 ∧ (s.heap.hide 421).get? p.1 = none := fun p hp => by
    rcases List.mem_singleton.mp hp with rfl
    exact ⟨ho, Heap.hide_self _ _⟩
  (refine wpAny_call ?_; k_dflt (refine' enter (g := Heap.hide _ 421) ?g1 ?g2 ?k3 ?k5 ?kN ?k6 ?k7 ?k8 ?k9 ?kB ?_ ?c2 ?c3 ?c4 ?c5; (case g1 => exact keptHide _ _); (case g2 => exact Heap.hide_size _ _); (case k3 => k_asm); (case k5 => k_asm); (case kN => assumption); (case k6 => k_is); (case k7 => k_is); (case k8 => first | ktr_room | (dsimp only [Ar]; omega)); (case k9 => exact BindsTo.of_eq rfl); (case c5 => decide); (case kB => exact locs rfl); (case c2 => exact rfl); (case c3 => exact rfl); (case c4 => exact rfl); k_whole; intro L' h' F' N'; (try dsimp only); (try k_fold)))
  k_steps
  unfold Halt
  rename Fr _ _ _ _ => F1
  rename News _ _ _ _ => N1
  refine keyed_spec (X.keeps (keptHide2 F1.keep (Heap.hide_self _ _))) (T.keeps (keptHide2 F1.keep (Heap.hide_self _ _))) (hT.hidden F1.keep (N1.get (by k_mem)) ho) h1 h2 n1 n2 (by first | (dsimp only [Ar]; omega) | omega) fun b t h' tk' hx hT' hb => ?_
  ((try dsimp only); (try k_unfold); (try dsimp only))
  exact hret _ _ _ _ (fun c o hc e => hx _ _ hc (F1.keep _ _ ((Heap.hide_ne _ hc).trans e))) hT' hb
end
example : True := by w_top off; first | walk1 | trivial
section
local macro_rules | `(tactic| walk_at "callWith ref") => `(tactic| (k_here; k_dflt (refine' callWith_F ?k1 ?_; (case k1 => exact FnAt.of (by k_asm) (by k_mem)); k_whole)))
local macro_rules | `(tactic| walk_at "call type:bytes") => `(tactic| (k_here; (with_reducible show wpAny _ _ (call (Value.type "bytes") [Value.bytes _ _]) _ _ _); refine bytesOfBytes ?_))
local macro_rules | `(tactic| walk_at "call type:bytes") => `(tactic| (k_here; (with_reducible show wpAny _ _ (call (Value.type "bytes") [Value.ref _]) _ _ _); (with_reducible rename Fr _ _ _ _ => F'); (refine bytesOfBa (s := ⟨_, _, _, _, _⟩) (F'.keep _ _ (by with_reducible assumption)) (by with_reducible assumption) ?_); intro t' k'))
set_option maxHeartbeats 800000 in
theorem keyedA_hit {b1 b2 : Array UInt8} {ks ls : List Int} {t1 : Tok} {ta : Addr} {c' : Addr} {o2 : Obj} {vs : Array Value} {t3 : Tok}
    (X : (K w.params).In (s.heap.hide 421)) (T : Top p loose mean mg mb (s.heap.hide 421)) (hP : s.heap.get? 421 = some (tabObj (triple c'))) (hc2 : s.heap.get? c' = some o2) (hne' : c' ≠ 421) (hd2 : o2.data = .fields vs) (hv2 : vs[1]? = some (.str qualH t3))
    (h1 : KBw.bInts b1 = ks) (h2 : KBw.bInts b2 = ls) (hta : s.heap.get? ta = some (baObj b2)) (hta1 : ta ≠ 421) (n1 : ks.length ≤ 72) (n2 : ls.length ≤ 72) (hd : dp + 2 < recursionLimit)
    (hret : ∀ (b : Array UInt8) (t : Tok) (h' : Heap) (tk' : Nat), Kept s.heap h' → KBw.bInts b = hashL 32 ((ks.length : Int) :: (ks ++ ls)) → Q (.bytes b t) { s with heap := h', toks := tk' }) :
    wpAny (model PySem.Challenge.pw_lh0033_01 w) (Ar dp un gd outer) (call (.ref 433) [.bytes b1 t1, .ref ta]) Q E s := by
  have N0 : ∀ p ∈ [((421 : Addr), tabObj (triple c'))], s.heap.get? p.1 = some p.2 ∧ (s.heap.hide 421).get? p.1 = none := fun p hp => by
    rcases List.mem_singleton.mp hp with rfl
    exact ⟨hP, Heap.hide_self _ _⟩
  have hold : 421 < s.heap.objs.size := Heap.lt_size hP
  have hcb : (s.heap.hide 421).get? c' = some o2 := (Heap.hide_ne _ hne').trans hc2
  have htb : (s.heap.hide 421).get? ta = some (baObj b2) := (Heap.hide_ne _ hta1).trans hta
  have hz2 : b2.size ≤ sizeLine := by rw [← KBw.ints_length, h2]; exact Nat.le_trans n2 (by decide +kernel)
  (refine wpAny_call ?_; k_dflt (refine' enter (g := Heap.hide _ 421) ?g1 ?g2 ?k3 ?k5 ?kN ?k6 ?k7 ?k8 ?k9 ?kB ?_ ?c2 ?c3 ?c4 ?c5; (case g1 => exact keptHide _ _); (case g2 => exact Heap.hide_size _ _); (case k3 => k_asm); (case k5 => k_asm); (case kN => assumption); (case k6 => k_is); (case k7 => k_is); (case k8 => first | ktr_room | (dsimp only [Ar]; omega)); (case k9 => exact BindsTo.of_eq rfl); (case c5 => decide); (case kB => exact locs rfl); (case c2 => exact rfl); (case c3 => exact rfl); (case c4 => exact rfl); k_whole; intro L' h' F' N'; (try dsimp only); (try k_fold)))
  k_steps
  unfold Halt
  rename Fr _ _ _ _ => F1
  rename News _ _ _ _ => N1
  have hab := F1.above
  rw [Heap.hide_size] at hab
  have hL := F1.ns.lt
  have hne : 421 ≠ _ := Nat.ne_of_lt (Nat.lt_of_lt_of_le hold hab)
  refine law_hash_hit (X.keeps (keptHide2 F1.keep (Heap.hide_self _ _))) (T.keeps (keptHide2 F1.keep (Heap.hide_self _ _))) (N1.get (by k_mem)) (F1.keep _ _ hcb) hne' hd2 hv2 (by first | (dsimp only [Ar]; omega) | omega) fun f cc o1 t ctv doc pm h' tk' hx e2 e3 e4 l1 l2 => ?_
  have F2 := frExt F1 (Heap.hide_self _ _) (Ne.symm hne) (fun b o _ e => hx b o e)
  have N2 := newsCons' (hx _ _ (N1.get (by k_mem))) hne (Heap.hide_self s.heap _) (newsCons e2 (Nat.lt_trans (Nat.lt_of_lt_of_le hL l1) l2) (by rw [Heap.hide_size]; exact Nat.le_trans (Nat.le_of_lt (Nat.lt_of_le_of_lt hab hL)) (Nat.le_trans l1 (Nat.le_of_lt l2)))
    (newsCons e3 (Nat.lt_of_lt_of_le hL l1) (by rw [Heap.hide_size]; exact Nat.le_trans (Nat.le_of_lt (Nat.lt_of_le_of_lt hab hL)) l1) (newsNil F2)))
  clear N1 F1
  k_steps
  unfold Halt
  rename Fr _ _ _ _ => F3
  rename News _ _ _ _ => N3
  refine hashed_spec (X.keeps F3.keep) (T.keeps F3.keep) ⟨cc, o1, t, c', ctv, doc, pm, N3.get (by k_mem), N3.get (by k_mem), e4, ⟨c', o2, vs, t3, rfl, F3.keep _ _ hcb, hd2, hv2⟩⟩ (by assumption) ?len (by decide) (by decide) (by first | (dsimp only [Ar]; omega) | omega) fun b' t' h'' tk'' hK hb' => ?_
  case len => simp; omega
  ((try dsimp only); (try k_unfold); (try dsimp only))
  refine hret _ _ _ _ (fun b o e => ?_) ?_
  · by_cases hb : b = 421
    · subst hb
      rw [hP] at e
      cases e
      exact hK _ _ (N3.get (by k_mem))
    · exact hK _ _ (F3.keep _ _ ((Heap.hide_ne _ hb).trans e))
  exact keyed_end hb' n1
end
example : True := by w_top off; first | walk1 | trivial
section
theorem wpC_callWith_type1 {M : Model} {A : Around} {E : Value → Shared → Prop} {s : Shared} {env : Env} {pos : Pos} {T : String} {e : Expr} {Q : Value → Shared → Prop}
    (h : wpC M A (eval e env) (fun v s₁ => wpC M A (call (.type T) [v]) Q E s₁) E s) (he : starEach [e] env = [(false, eval e env)] := by rfl) : wpC M A (callWith pos (.type T) [] (backTo pos (starEach [e] env)) []) Q E s := by
  rw [he]
  exact callWithC_val rfl rfl (evalArgsC_1 h)
noncomputable abbrev bodFor : List Stmt := takeF (x := bod35.getD 3 (.Pass ⟨0, 0, 0, 0⟩)) rfl
noncomputable abbrev mE (b1 b2 : Array UInt8) (t1 t2 t3 tn : Tok) (len n : Int) (iv : Option Value) (ap ao : Addr) (tx : Option Value) : Str → Option Value := fun y =>
  if y = Str.ofString "i" then iv else if y = Str.ofString "text" then tx else if y = Str.ofString "previous" then some (.ref ap) else if y = Str.ofString "okm" then some (.ref ao) else if y = Str.ofString "n" then some (.int n tn) else
  if y = Str.ofString "hmac" then some (.ref 433) else if y = Str.ofString "length" then some (.int len t3) else if y = Str.ofString "info" then some (.bytes b2 t2) else if y = Str.ofString "prk" then some (.bytes b1 t1) else none
noncomputable abbrev envE (L : Addr) : Env := envOf (Str.ofString "hkdf_expand") sco35 L 35 (.ref 34)
local macro_rules | `(tactic| walk_at "binaryOp Add") => `(tactic| (k_here; (with_reducible show wpAny _ _ (binaryOp Operator.Add (Value.ref _) (Value.bytes _ _)) _ _ _); refine halt ?_))
local macro_rules | `(tactic| walk_at "binaryOp Add ref bytes") => `(tactic| (k_here; (with_reducible show wpAny _ _ (binaryOp Operator.Add (Value.ref _) (Value.bytes _ _)) _ _ _); refine halt ?_))
theorem mE_set {b1 b2 : Array UInt8} {t1 t2 t3 tn : Tok} {len n : Int} {iv : Option Value} {ap ao P T : Addr} {tx : Option Value} :
    (fun y => if y = Str.ofString "previous" then some (Value.ref P) else if y = Str.ofString "text" then some (Value.ref T) else mE b1 b2 t1 t2 t3 tn len n iv ap ao tx y) = mE b1 b2 t1 t2 t3 tn len n iv P ao (some (.ref T)) := by
  funext y
  by_cases e1 : y = Str.ofString "previous"
  · subst e1; rfl
  · by_cases e2 : y = Str.ofString "text"
    · subst e2; rfl
    · simp only [mE, if_neg e1, if_neg e2]
theorem turnInts {y b2 : Array UInt8} {ls : List Int} {i : Int} (h2 : KBw.bInts b2 = ls) (i0 : 0 ≤ i) (i1 : i ≤ 2) : KBw.bInts (y ++ b2 ++ #[(i + 1).toNat.toUInt8]) = KBw.bInts y ++ ls ++ [i + 1] := by
  have e := KBa.ints_make (ns := [i + 1]) (fun k hk => by rcases List.mem_singleton.mp hk with rfl; omega)
  exact KBw.ints_app (KBw.ints_app rfl h2) e
set_option maxHeartbeats 800000 in
theorem hkdf_turn {g h : Heap} {L I ap ao : Addr} {oI : Obj} {b1 b2 x y : Array UInt8} {c' : Addr} {o2 : Obj} {vs : Array Value} {tv : Tok} {ks ls : List Int} {t1 t2 t3 ti tn : Tok} {len n i : Int} {tk : Nat} {tx : Option Value} {Q : Flow → Shared → Prop}
    (F : Fr g L h (mE b1 b2 t1 t2 t3 tn len n (some (.int i ti)) ap ao tx)) (N : News g L h [(I, oI), (ap, baObj y), (ao, baObj x), (421, tabObj (triple c'))])
    (X : (K w.params).In g) (T : Top p loose mean mg mb g) (hc2 : g.get? c' = some o2) (hcne : c' ≠ 421) (hd2 : o2.data = .fields vs) (hv2 : vs[1]? = some (.str qualH tv)) (h1 : KBw.bInts b1 = ks) (h2 : KBw.bInts b2 = ls) (n1 : ks.length ≤ 30) (n2 : ls.length ≤ 30) (ny : y.size ≤ 32) (hIa : I ≠ ao) (nx : x.size ≤ 64) (i0 : 0 ≤ i) (i1 : i ≤ 2) (hd : dp + 4 < recursionLimit)
    (go : ∀ h' tk' ap' tx' b', Fr g L h' (mE b1 b2 t1 t2 t3 tn len n (some (.int i ti)) ap' ao tx') → News g L h' [(I, oI), (ap', baObj b'), (ao, baObj (x ++ b')), (421, tabObj (triple c'))] → KBw.bInts b' = hashL 32 ((ks.length : Int) :: (ks ++ (KBw.bInts y ++ ls ++ [i + 1]))) → b'.size = 32 → Q .next ⟨h', s.gens, s.drawn, tk', s.os⟩) :
    wpC (model PySem.Challenge.pw_lh0033_01 w) ((Ar dp un (some []) outer).deeper (envE L)) (execs bodFor (envE L)) Q E ⟨h, s.gens, s.drawn, tk, s.os⟩ := by
  delta bodFor takeF envE sco35 takeS mE
  refine wpC_step ?_
  k_steps
  unfold Halt
  rename Fr _ _ _ _ => F1
  rename News _ _ _ _ => N1
  have hb2 : b2.size ≤ 30 := by rw [← KBw.ints_length, h2]; exact n2
  refine ba_add (s := ⟨_, _, _, _, _⟩) (x := y) (y := b2) (N1.get (by k_mem)) (by omega) ?_
  dsimp only
  refine wpAny_push rfl fun h2' hkp tp hsp => ?_
  have F2 := frKept F1 hkp
  have N2 := newsTop F1 N1 hkp tp
  clear F1 N1
  k_steps
  unfold Halt
  rename Fr _ _ _ _ => F1
  rename News _ _ _ _ => N1
  refine ba_add (s := ⟨_, _, _, _, _⟩) (N1.get (by k_mem)) (by simp; omega) ?_
  dsimp only
  refine wpAny_push rfl fun h4 hkp4 tp4 hsp4 => ?_
  have F2 := frKept F1 hkp4
  have N2 := newsTop F1 N1 hkp4 tp4
  clear F1 N1
  k_steps
  all_goals first | exact True.intro | skip
  refine wpC_execs_cons (wpC_Assign_Name (wpC_Call_Name ?_))
  k_steps
  refine wpC_callWith_type1 (wpC_of ?_)
  k_steps
  unfold Halt
  rename Fr _ _ _ _ => F1
  rename News _ _ _ _ => N1
  have h421 : g.get? 421 = none := (N1 (421, tabObj (triple c')) (by k_mem)).2.2
  refine keyedA_hit (X.keeps (keptHide2 F1.keep h421)) (T.keeps (keptHide2 F1.keep h421)) (N1.get (by k_mem)) (F1.keep _ _ hc2) hcne hd2 hv2 h1 rfl (N1.get (by k_mem)) ?ne (by omega) ?len (by first | (dsimp only [Ar]; omega) | omega) fun b' t' h'' tk'' hK hb' => ?_
  case ne =>
    intro e
    have q1 := N1.get (a := 421) (o := tabObj (triple c')) (by k_mem)
    have q2 := (N1 _ (List.mem_cons_self ..)).1
    dsimp only at q2
    rw [e, q1] at q2
    cases q2
  case len => rw [KBw.ints_length]; simp; omega
  have F2 := frKept F1 hK
  have N2 := newsKept N1 hK
  clear F1 N1
  dsimp only
  have hl32 : b'.size = 32 := by rw [← KBw.ints_length, hb']; exact hashL_len 32 _
  rename Fr _ _ _ _ => F1
  rename News _ _ _ _ => N1
  have haoLt : ao < h''.objs.size := Heap.lt_size (N1.get (o := baObj x) (by k_mem))
  refine ba_make_bytes rfl (by rw [hl32]; decide +kernel) fun h5 hk5 hs5 hb5 => ?_
  have F2 := frKept F1 hk5
  have N2 := newsTop F1 N1 hk5 hb5
  clear F1 N1
  k_steps
  dsimp only
  all_goals first | exact True.intro | skip
  refine wpC_execs_cons (wpC_Expr (ba_Call_extend rfl (by rfl) rfl rfl ?_))
  rename Fr _ _ _ _ => F1
  rename News _ _ _ _ => N1
  walk_at "eval Name"
  refine ⟨_, x, rfl, N1.get (by k_mem), ?_⟩
  walk_at "eval Name"
  refine ⟨_, x, b', rfl, N1.get (by k_mem), N1.get (by k_mem), ?sz, fun h6 e6 s6 => ⟨rfl, ?_⟩⟩
  case sz => rw [Array.size_append, hl32, sizeLine_eq]; omega
  dsimp only
  have hao : g.get? ao = none := (N1 (ao, baObj x) (by k_mem)).2.2
  have haL : ao ≠ L := (N1 (ao, baObj x) (by k_mem)).2.1
  have F3 := frExt F1 hao (Ne.symm haL) s6.extBut
  refine wpC_execs_nil (go _ _ _ _ b' (frEq F3 mE_set) ?nn ?hb hl32)
  case nn =>
    have hPa : h''.objs.size ≠ ao := Nat.ne_of_gt haoLt
    have hTa : (421 : Addr) ≠ ao := fun e => by
      have q1 := N1.get (a := 421) (o := tabObj (triple c')) (by k_mem)
      rw [e, N1.get (a := ao) (o := baObj x) (by k_mem)] at q1
      cases q1
    intro p hp
    simp only [List.mem_cons, List.not_mem_nil, or_false] at hp
    rcases hp with rfl | rfl | rfl | rfl
    · exact ⟨s6.extBut _ _ hIa (N1.get (by k_mem)), (N1 (I, oI) (by k_mem)).2⟩
    · exact ⟨s6.extBut _ _ hPa (N1.get (by k_mem)), (N1 (h''.objs.size, baObj b') (by k_mem)).2⟩
    · exact ⟨e6, haL, hao⟩
    · exact ⟨s6.extBut _ _ hTa (N1.get (by k_mem)), (N1 (421, tabObj (triple c')) (by k_mem)).2⟩
  case hb =>
    rw [hb', turnInts h2 i0 i1]
end
example : True := by w_top off; first | walk1 | trivial
section
noncomputable abbrev tgtFor : Expr := takeT (x := bod35.getD 3 (.Pass ⟨0, 0, 0, 0⟩)) rfl
/-- the octets of the turns still to come -/
noncomputable def turnsL (ks ls : List Int) : Nat → Int → List Int → List Int
  | 0, _, _ => []
  | m + 1, j, t => let t' := hashL 32 ((ks.length : Int) :: (ks ++ (t ++ ls ++ [j + 1]))); t' ++ turnsL ks ls m (j + 1) t'
theorem mE_i {b1 b2 : Array UInt8} {t1 t2 t3 tn : Tok} {len n : Int} {iv : Option Value} {ap ao : Addr} {tx : Option Value} {v : Value} :
    (fun y => if y = Str.ofString "i" then some v else mE b1 b2 t1 t2 t3 tn len n iv ap ao tx y) = mE b1 b2 t1 t2 t3 tn len n (some v) ap ao tx := by
  funext y
  by_cases e1 : y = Str.ofString "i"
  · subst e1; rfl
  · simp only [mE, if_neg e1]
set_option maxHeartbeats 800000 in
theorem hkdf_loop {g : Heap} {L I ao : Addr} {b1 b2 : Array UInt8} {ps : Array Value} {c' : Addr} {o2 : Obj} {vs : Array Value} {tv : Tok} {ks ls : List Int} {t1 t2 t3 tn : Tok} {len n : Int} {R : Result → Shared → Prop} (m : Nat) :
    ∀ {h : Heap} {ap : Addr} {x y : Array UInt8} {iv tx : Option Value} {tk : Nat} {j : Int} {s : Shared},
    Fr g L h (mE b1 b2 t1 t2 t3 tn len n iv ap ao tx) → News g L h [(I, rangeIt j (m : Int)), (ap, baObj y), (ao, baObj x), (421, tabObj ps)] →
    (K w.params).In g → Top p loose mean mg mb g → (0 < m → ps = triple c' ∧ g.get? c' = some o2 ∧ c' ≠ 421 ∧ o2.data = .fields vs ∧ vs[1]? = some (.str qualH tv)) → KBw.bInts b1 = ks → KBw.bInts b2 = ls → ks.length ≤ 30 → ls.length ≤ 30 → y.size ≤ 32 → x.size ≤ 32 * j.toNat → 0 ≤ j → j + m ≤ 2 → dp + 4 < recursionLimit →
    (∀ h' tk' iv' ap' tx' x', Fr g L h' (mE b1 b2 t1 t2 t3 tn len n iv' ap' ao tx') → News g L h' [(ao, baObj x'), (421, tabObj ps)] → KBw.bInts x' = KBw.bInts x ++ turnsL ks ls m j (KBw.bInts y) → x'.size ≤ x.size + 32 * m → R (.ok .next) ⟨h', s.gens, s.drawn, tk', s.os⟩) →
    codeC (model PySem.Challenge.pw_lh0033_01 w) ((Ar dp un (some []) outer).deeper (envE L)) (.forLoop tgtFor (.ref I) bodFor [] (envE L)) R ⟨h, s.gens, s.drawn, tk, s.os⟩ := by
  induction m with
  | zero =>
    intro h ap x y iv tx tk j s F N X T hit h1 h2 n1 n2 ny nx j0 j1 hd go
    refine codeC_forTurn ?_
    refine wpAny_pyNext_range_end (s := ⟨_, _, _, _, _⟩) rfl (N.get (by k_mem)) (by decide) fun h' e => ?_
    have hI := N (I, rangeIt j ((0 : Nat) : Int)) (by k_mem)
    have hIao : ao ≠ I := news_ne N (a := ao) (b := I) (by k_mem) (by k_mem) (fun q => by first | cases q | (injection q with q; revert q; decide))
    have hIt : (421 : Addr) ≠ I := news_ne N (a := 421) (b := I) (by k_mem) (by k_mem) (fun q => by first | cases q | (injection q with q; revert q; decide))
    have F3 := frExt F hI.2.2 (Ne.symm hI.2.1) e
    refine wpAny_execs_nil (go _ _ _ _ _ x F3 ?nn ?hb ?hs)
    case nn =>
      intro p hp
      simp only [List.mem_cons, List.not_mem_nil, or_false] at hp
      rcases hp with rfl | rfl
      · exact ⟨e _ _ hIao (N.get (by k_mem)), (N (ao, baObj x) (by k_mem)).2⟩
      · exact ⟨e _ _ hIt (N.get (by k_mem)), (N (421, tabObj ps) (by k_mem)).2⟩
    case hb => simp [turnsL]
    case hs => omega
  | succ m ih =>
    intro h ap x y iv tx tk j s F N X T hit h1 h2 n1 n2 ny nx j0 j1 hd go
    refine codeC_forTurn ?_
    refine wpAny_pyNext_range_item (s := ⟨_, _, _, _, _⟩) (N.get (by k_mem)) (by omega) fun h' e sb => ?_
    dsimp only
    have hI := N (I, rangeIt j ((m + 1 : Nat) : Int)) (by k_mem)
    have hIao : ao ≠ I := news_ne N (a := ao) (b := I) (by k_mem) (by k_mem) (fun q => by first | cases q | (injection q with q; revert q; decide))
    have hIp : ap ≠ I := news_ne N (a := ap) (b := I) (by k_mem) (by k_mem) (fun q => by first | cases q | (injection q with q; revert q; decide))
    have hIt : (421 : Addr) ≠ I := news_ne N (a := 421) (b := I) (by k_mem) (by k_mem) (fun q => by first | cases q | (injection q with q; revert q; decide))
    have F3 := frExt F hI.2.2 (Ne.symm hI.2.1) sb.extBut
    have N3 : News g L h' [(I, rangeIt (j + 1) (m : Int)), (ap, baObj y), (ao, baObj x), (421, tabObj ps)] := by
      refine newsBut N ?_ sb.extBut ?_
      · rwa [show ((m + 1 : Nat) : Int) - 1 = (m : Int) by omega] at e
      · intro p hp
        simp only [List.mem_cons, List.not_mem_nil, or_false] at hp
        rcases hp with rfl | rfl | rfl
        · exact hIp
        · exact hIao
        · exact hIt
    delta tgtFor takeT
    obtain ⟨hps, hc2, hcne, hd2, hv2⟩ := hit (Nat.succ_pos m)
    subst hps
    refine wpAny_assign_Name (stN (s := ⟨_, _, _, _, _⟩) F3 N3 fun h4 F4 N4 => ?_)
    refine hkdf_turn (s := s) (frEq F4 mE_i) N4 X T hc2 hcne hd2 hv2 h1 h2 n1 n2 ny (Ne.symm hIao) (by omega) j0 (by omega) hd fun h5 tk5 ap5 tx5 b5 F5 N5 hb5 hs5 => ?_
    dsimp only
    refine ih (s := s) F5 N5 X T (fun _ => ⟨rfl, hc2, hcne, hd2, hv2⟩) h1 h2 n1 n2 (by omega) (by rw [Array.size_append]; omega) (by omega) (by omega) hd fun h6 tk6 iv6 ap6 tx6 x6 F6 N6 hx6 hsz6 => ?_
    refine go _ _ _ _ _ _ F6 N6 ?_ ?_
    · rw [hx6, turnsL, KBw.ints_app rfl hb5, hb5, List.append_assoc]
    · rw [Array.size_append] at hsz6; omega
end
example : True := by w_top off; first | walk1 | trivial
section
local macro_rules | `(tactic| walk_at "FnAt") => `(tactic| ((with_reducible rename Fr _ _ _ _ => F'); (with_reducible rename HashAt _ _ _ => H'); exact (HashAt.kept H' (Fr.keep F')).fn))
local macro_rules | `(tactic| walk_at "callWith ref") => `(tactic| (k_here; (with_reducible rename Fr _ _ _ _ => F'); (with_reducible rename HashAt _ _ _ => H'); (refine' callWith_F ?k1 ?_; (case k1 => exact (HashAt.kept H' (Fr.keep F')).fn); k_whole)))
noncomputable abbrev bodX : List Stmt := takeF (x := bod445.getD 5 (.Pass ⟨0, 0, 0, 0⟩)) rfl
noncomputable abbrev tgtX : Expr := takeT (x := bod445.getD 5 (.Pass ⟨0, 0, 0, 0⟩)) rfl
noncomputable abbrev envX4 (L : Addr) : Env := envOf (Str.ofString "_law_expanded") sco445 L 445 (.ref 444)
noncomputable abbrev mX (msg mark first ending : Array UInt8) (t1 t2 t3 t4 t5 t6 t7 t8 : Tok) (f : Addr) (size d block rounds : Int) (kv : Option Value) (last told : Value) : Str → Option Value := fun y =>
  if y = Str.ofString "k" then kv else if y = Str.ofString "told" then some told else if y = Str.ofString "last" then some last else if y = Str.ofString "first" then some (.bytes first t1) else if y = Str.ofString "ending" then some (.bytes ending t2) else if y = Str.ofString "rounds" then some (.int rounds t3) else
  if y = Str.ofString "block" then some (.int block t4) else if y = Str.ofString "digits" then some (.int d t5) else if y = Str.ofString "hashed" then some (.ref f) else if y = Str.ofString "size" then some (.int size t6) else if y = Str.ofString "mark" then some (.bytes mark t7) else if y = Str.ofString "message" then some (.bytes msg t8) else none
/-- the octets of the rounds still to come -/
noncomputable def roundsL (d : Int) (fs es : List Int) : Nat → Int → List Int → List Int
  | 0, _, _ => []
  | m + 1, k, last => let l' := hashL d ((if 0 < k then List.zipWith ixor fs last else fs) ++ [k + 1] ++ es); l' ++ roundsL d fs es m (k + 1) l'
theorem mX_set {msg mark first ending : Array UInt8} {t1 t2 t3 t4 t5 t6 t7 t8 : Tok} {f : Addr} {size d block rounds : Int} {kv : Option Value} {last told last' told' : Value} :
    (fun y => if y = Str.ofString "told" then some told' else if y = Str.ofString "last" then some last' else mX msg mark first ending t1 t2 t3 t4 t5 t6 t7 t8 f size d block rounds kv last told y) = mX msg mark first ending t1 t2 t3 t4 t5 t6 t7 t8 f size d block rounds kv last' told' := by
  funext y
  by_cases e1 : y = Str.ofString "told"
  · subst e1; rfl
  · by_cases e2 : y = Str.ofString "last"
    · subst e2; rfl
    · simp only [mX, if_neg e1, if_neg e2]
set_option maxHeartbeats 800000 in
theorem exd_turn {g h : Heap} {L I f : Addr} {oI : Obj} {msg mark first ending bl bt : Array UInt8} {tl tt t1 t2 t3 t4 t5 t6 t7 t8 tk0 : Tok} {size d block rounds k : Int} {fs es : List Int} {tk : Nat} {Q : Flow → Shared → Prop}
    (F : Fr g L h (mX msg mark first ending t1 t2 t3 t4 t5 t6 t7 t8 f size d block rounds (some (.int k tk0)) (.bytes bl tl) (.bytes bt tt))) (N : News g L h [(I, oI)])
    (X : (K w.params).In g) (T : Top p loose mean mg mb g) (H : HashAt g f d) (h1 : KBw.bInts first = fs) (h2 : KBw.bInts ending = es) (n1 : fs.length ≤ 72) (n2 : es.length ≤ 300) (nt : bt.size ≤ 300) (d0 : 1 ≤ d) (d1 : d ≤ 72) (k0 : 0 ≤ k) (k1 : k ≤ 4) (hd : dp + 4 < recursionLimit) (hu : un + 60 < cLine)
    (go : ∀ h' tk' bl' tl' bt' tt', Fr g L h' (mX msg mark first ending t1 t2 t3 t4 t5 t6 t7 t8 f size d block rounds (some (.int k tk0)) (.bytes bl' tl') (.bytes bt' tt')) → News g L h' [(I, oI)] → KBw.bInts bl' = hashL d ((if 0 < k then List.zipWith ixor fs (KBw.bInts bl) else fs) ++ [k + 1] ++ es) → KBw.bInts bt' = KBw.bInts bt ++ KBw.bInts bl' → Q .next ⟨h', s.gens, s.drawn, tk', s.os⟩) :
    wpAny (model PySem.Challenge.pw_lh0033_01 w) ((Ar dp un gd outer).deeper (envX4 L)) (execs bodX (envX4 L)) Q E ⟨h, s.gens, s.drawn, tk, s.os⟩ := by
  obtain ⟨ts, hts, lts⟩ : ∃ ts, KBw.bInts bt = ts ∧ ts.length ≤ 300 := ⟨_, rfl, by rw [KBw.ints_length]; exact nt⟩
  delta bodX takeF envX4 sco445 takeS mX
  k_steps
  all_goals unfold Halt
  · rename Fr _ _ _ _ => F1
    rename News _ _ _ _ => N1
    rename HashAt _ _ _ => H
    refine laid_spec (s := ⟨_, _, _, _, _⟩) (X.keeps F1.keep) (T.keeps F1.keep) (by rw [← KBw.ints_length, h1]; exact n1) (by first | ktr_room | (dsimp only [Ar]; omega)) (by first | ktr_room | (dsimp only [Ar]; omega)) fun bz tz hz tkz kz ez => ?_
    have F2 := frKept F1 kz
    have N2 := newsKept N1 kz
    obtain ⟨zs, hzs⟩ : ∃ zs, zs = zipInts ixor first bl := ⟨_, rfl⟩
    have lz : zs.length ≤ 72 := by rw [hzs, zipInts_length]; exact Nat.le_trans (Nat.min_le_left _ _) (by rw [← KBw.ints_length, h1]; exact n1)
    rw [← hzs] at ez
    clear F1 N1
    k_steps
    unfold Halt
    rename Fr _ _ _ _ => F1
    rename News _ _ _ _ => N1
    refine hashed_spec (s := ⟨_, _, _, _, _⟩) (X.keeps F1.keep) (T.keeps F1.keep) (H.kept F1.keep) (by assumption) ?len d0 d1 (by first | ktr_room | (dsimp only [Ar]; omega)) fun bh th hh tkh kh eh => ?_
    case len => simp; omega
    obtain ⟨us, hus⟩ : ∃ us, us = KBw.bInts bh := ⟨_, rfl⟩
    have lu : us.length ≤ 72 := by rw [hus, eh]; exact hashL_le
    have F2 := frKept F1 kh
    have N2 := newsKept N1 kh
    clear F1 N1
    have eu := hus.symm
    k_steps
    all_goals first | exact True.intro | skip
    rename Fr _ _ _ _ => F1
    rename News _ _ _ _ => N1
    refine go _ _ _ _ _ _ (frEq F1 mX_set) (fun p hp => N1 p (by simp at hp ⊢; simp [hp])) ?_ ?_
    · rw [oneOct (by omega) (by omega), hzs, zipInts, h1] at eh
      rw [eh, if_pos (by assumption)]
    · rw [KBw.ints_app rfl rfl]
  · rename Fr _ _ _ _ => F1
    rename HashAt _ _ _ => H
    rename News _ _ _ _ => N1
    refine hashed_spec (s := ⟨_, _, _, _, _⟩) (X.keeps F1.keep) (T.keeps F1.keep) (H.kept F1.keep) (by assumption) ?len d0 d1 (by first | ktr_room | (dsimp only [Ar]; omega)) fun bh th hh tkh kh eh => ?_
    case len => simp; omega
    obtain ⟨us, hus⟩ : ∃ us, us = KBw.bInts bh := ⟨_, rfl⟩
    have lu : us.length ≤ 72 := by rw [hus, eh]; exact hashL_le
    have F2 := frKept F1 kh
    have N2 := newsKept N1 kh
    clear F1 N1
    have eu := hus.symm
    k_steps
    all_goals first | exact True.intro | skip
    rename Fr _ _ _ _ => F1
    rename News _ _ _ _ => N1
    refine go _ _ _ _ _ _ (frEq F1 mX_set) (fun p hp => N1 p (by simp at hp ⊢; simp [hp])) ?_ ?_
    · rw [oneOct (by omega) (by omega)] at eh
      rw [eh, if_neg (by omega)]
    · rw [KBw.ints_app rfl rfl]
end
example : True := by w_top off; first | walk1 | trivial
section
theorem mX_k {msg mark first ending : Array UInt8} {t1 t2 t3 t4 t5 t6 t7 t8 : Tok} {f : Addr} {size d block rounds : Int} {kv : Option Value} {last told v : Value} :
    (fun y => if y = Str.ofString "k" then some v else mX msg mark first ending t1 t2 t3 t4 t5 t6 t7 t8 f size d block rounds kv last told y) = mX msg mark first ending t1 t2 t3 t4 t5 t6 t7 t8 f size d block rounds (some v) last told := by
  funext y
  by_cases e1 : y = Str.ofString "k"
  · subst e1; rfl
  · simp only [mX, if_neg e1]
set_option maxHeartbeats 400000 in
theorem exd_loop {g : Heap} {L I f : Addr} {msg mark first ending : Array UInt8} {t1 t2 t3 t4 t5 t6 t7 t8 : Tok} {size d block rounds : Int} {fs es : List Int} {R : Result → Shared → Prop} (m : Nat) :
    ∀ {h : Heap} {bl bt : Array UInt8} {tl tt : Tok} {kv : Option Value} {tk : Nat} {k : Int} {s : Shared},
    Fr g L h (mX msg mark first ending t1 t2 t3 t4 t5 t6 t7 t8 f size d block rounds kv (.bytes bl tl) (.bytes bt tt)) → News g L h [(I, rangeIt k (m : Int))] →
    (K w.params).In g → Top p loose mean mg mb g → HashAt g f d → KBw.bInts first = fs → KBw.bInts ending = es → fs.length ≤ 72 → es.length ≤ 300 → bt.size ≤ 72 * k.toNat → 1 ≤ d → d ≤ 72 → 0 ≤ k → k + m ≤ 4 → dp + 4 < recursionLimit → un + 60 < cLine →
    (∀ h' tk' kv' bl' tl' bt' tt', Fr g L h' (mX msg mark first ending t1 t2 t3 t4 t5 t6 t7 t8 f size d block rounds kv' (.bytes bl' tl') (.bytes bt' tt')) → News g L h' [] → KBw.bInts bt' = KBw.bInts bt ++ roundsL d fs es m k (KBw.bInts bl) → R (.ok .next) ⟨h', s.gens, s.drawn, tk', s.os⟩) →
    codeAny (model PySem.Challenge.pw_lh0033_01 w) ((Ar dp un gd outer).deeper (envX4 L)) (.forLoop tgtX (.ref I) bodX [] (envX4 L)) R ⟨h, s.gens, s.drawn, tk, s.os⟩ := by
  induction m with
  | zero =>
    intro h bl bt tl tt kv tk k s F N X T H h1 h2 n1 n2 nt d0 d1 k0 k1 hd hu go
    refine codeA_forTurn ?_
    refine wpAny_pyNext_range_end (s := ⟨_, _, _, _, _⟩) rfl (N.get (by k_mem)) (by decide) fun h' e => ?_
    have hI := N (I, rangeIt k ((0 : Nat) : Int)) (by k_mem)
    have F3 := frExt F hI.2.2 (Ne.symm hI.2.1) e
    refine wpAny_execs_nil (go _ _ _ _ _ _ _ F3 .nil ?hb)
    case hb => simp [roundsL]
  | succ m ih =>
    intro h bl bt tl tt kv tk k s F N X T H h1 h2 n1 n2 nt d0 d1 k0 k1 hd hu go
    refine codeA_forTurn ?_
    refine wpAny_pyNext_range_item (s := ⟨_, _, _, _, _⟩) (N.get (by k_mem)) (by omega) fun h' e sb => ?_
    dsimp only
    have hI := N (I, rangeIt k ((m + 1 : Nat) : Int)) (by k_mem)
    have F3 := frExt F hI.2.2 (Ne.symm hI.2.1) sb.extBut
    have N3 : News g L h' [(I, rangeIt (k + 1) (m : Int))] := by
      refine newsBut N ?_ sb.extBut ?_
      · rwa [show ((m + 1 : Nat) : Int) - 1 = (m : Int) by omega] at e
      · intro p hp
        cases hp
    delta tgtX takeT
    refine wpAny_assign_Name (stN (s := ⟨_, _, _, _, _⟩) F3 N3 fun h4 F4 N4 => ?_)
    refine exd_turn (s := s) (frEq F4 mX_k) N4 X T H h1 h2 n1 n2 (by omega) d0 d1 k0 (by omega) hd hu fun h5 tk5 bl5 tl5 bt5 tt5 F5 N5 hl5 hb5 => ?_
    dsimp only
    have hsz : bt5.size = bt.size + bl5.size := by rw [← KBw.ints_length, hb5, List.length_append, KBw.ints_length, KBw.ints_length]
    have hsl : bl5.size ≤ 72 := by rw [← KBw.ints_length, hl5]; exact hashL_le
    refine ih (s := s) F5 N5 X T H h1 h2 n1 n2 (by omega) d0 d1 (by omega) (by omega) hd hu fun h6 tk6 kv6 bl6 tl6 bt6 tt6 F6 N6 hx6 => ?_
    refine go _ _ _ _ _ _ _ F6 N6 ?_
    rw [hx6, roundsL, hb5, hl5, List.append_assoc]
end
example : True := by w_top off; first | walk1 | trivial
section
local macro_rules | `(tactic| walk_at "FnAt") => `(tactic| ((with_reducible rename Fr _ _ _ _ => F'); (with_reducible rename HashAt _ _ _ => H'); exact (HashAt.kept H' (Fr.keep F')).fn))
local macro_rules | `(tactic| walk_at "callWith ref") => `(tactic| (k_here; (with_reducible rename Fr _ _ _ _ => F'); (with_reducible rename HashAt _ _ _ => H'); (refine' callWith_F ?k1 ?_; (case k1 => exact (HashAt.kept H' (Fr.keep F')).fn); k_whole)))
local macro_rules | `(tactic| walk_at "exec For Name Call cons nil") => `(tactic| (k_here; refine halt ?_))
local macro_rules | `(tactic| walk_at "pyIter ref") => `(tactic| (k_here; refine halt ?_))
theorem ceil3 {size d : Int} (z0 : 0 ≤ size) (z1 : size ≤ 3 * d) (d0 : 1 ≤ d) : 0 ≤ Int.fdiv (size + d - 1) d ∧ Int.fdiv (size + d - 1) d ≤ 3 := by
  rw [Int.fdiv_eq_ediv_of_nonneg _ (by omega : (0 : Int) ≤ d)]
  refine ⟨Int.ediv_nonneg (by omega) (by omega), ?_⟩
  have : (size + d - 1) / d < 4 := Int.ediv_lt_of_lt_mul (by omega) (by omega)
  omega
theorem intsRep {n : Nat} {t : Tok} : IntsAre (List.replicate n [Value.int 0 t]).flatten (List.replicate n (0 : Int)) := by
  induction n with
  | zero => exact .nil
  | succ n ih => rw [List.replicate_succ, List.replicate_succ]; exact .cons _ _ ih
theorem repLen {n : Nat} {v : Value} : (List.replicate n [v]).flatten.length = n := by simp
theorem threeOct {a b : Int} (a0 : 0 ≤ a) (a1 : a < 256) (b0 : 0 ≤ b) (b1 : b < 256) : List.map (fun c : UInt8 => ((c.toNat : Nat) : Int)) [a.toNat.toUInt8, b.toNat.toUInt8, (Int.toNat 0).toUInt8] = [a, b, 0] :=
  KBa.ints_make (ns := [a, b, 0]) fun k hk => by
    simp only [List.mem_cons, List.not_mem_nil, or_false] at hk
    rcases hk with rfl | rfl | rfl <;> omega
noncomputable def endL (ks : List Int) : List Int := ks ++ [(ks.length : Int)]
noncomputable def firstL (d : Int) (ms ks : List Int) (size block : Int) : List Int := hashL d (List.replicate block.toNat 0 ++ ms ++ [Int.fdiv size 256, Int.fmod size 256, 0] ++ (ks ++ [(ks.length : Int)]))
theorem roundsL_len {d : Int} {fs es : List Int} : ∀ (m : Nat) (k : Int) (l : List Int), (roundsL d fs es m k l).length ≤ 72 * m
  | 0, _, _ => Nat.le_refl _
  | m + 1, k, l => by
    rw [roundsL, List.length_append]
    have h1 := hashL_le (d := d) (ks := (if 0 < k then List.zipWith ixor fs l else fs) ++ [k + 1] ++ es)
    have h2 := roundsL_len (d := d) (fs := fs) (es := es) m (k + 1) (hashL d ((if 0 < k then List.zipWith ixor fs l else fs) ++ [k + 1] ++ es))
    omega
theorem newsHead {g h : Heap} {L : Addr} {a : Addr × Obj} {l : List (Addr × Obj)} (N : News g L h (a :: l)) : News g L h [a] := fun p hp => by
  rcases List.mem_singleton.mp hp with rfl
  exact N _ (List.mem_cons_self ..)
theorem mX_0 {msg mark first ending : Array UInt8} {t1 t2 t3 t4 t5 t6 t7 t8 : Tok} {f : Addr} {size d block rounds : Int} {last told : Value} {l : List (Str × Value)}
    (hl : l = [(Str.ofString "block", .int block t4), (Str.ofString "digits", .int d t5), (Str.ofString "hashed", .ref f), (Str.ofString "size", .int size t6), (Str.ofString "mark", .bytes mark t7), (Str.ofString "message", .bytes msg t8)]) :
    (fun y => if y = Str.ofString "last" then some last else if y = Str.ofString "told" then some told else if y = Str.ofString "first" then some (Value.bytes first t1) else if y = Str.ofString "ending" then some (.bytes ending t2) else if y = Str.ofString "rounds" then some (.int rounds t3) else List.lookup y l) =
      mX msg mark first ending t1 t2 t3 t4 t5 t6 t7 t8 f size d block rounds none last told := by
  funext y
  subst hl
  by_cases e1 : y = Str.ofString "k"
  · subst e1; rfl
  by_cases e2 : y = Str.ofString "told"
  · subst e2; rfl
  simp only [mX, if_neg e1, if_neg e2, lookup_if, List.lookup_nil]
theorem part256 {size : Int} (z0 : 0 ≤ size) (z1 : size ≤ 65535) : 0 ≤ Int.fdiv size 256 ∧ Int.fdiv size 256 < 256 ∧ 0 ≤ Int.fmod size 256 ∧ Int.fmod size 256 < 256 := by
  rw [Int.fdiv_eq_ediv_of_nonneg _ (by decide : (0 : Int) ≤ 256)]
  exact ⟨by omega, by omega, fmod_lo _ (by decide), fmod_hi _ (by decide)⟩
theorem oneEnd {b : Array UInt8} {ks : List Int} (h : KBw.bInts b = ks) (n : (ks.length : Int) < 256) : KBw.bInts (b ++ #[((ks.length : Int)).toNat.toUInt8]) = endL ks :=
  KBw.ints_app h (KBa.ints_make (ns := [(ks.length : Int)]) fun k hk => by rcases List.mem_singleton.mp hk with rfl; omega)
set_option maxHeartbeats 800000 in
theorem exd_for {g h : Heap} {L f : Addr} {msg mark first ending : Array UInt8} {t1 t2 t3 t4 t5 t6 t7 t8 tl tt : Tok} {size d block n : Int} {fs es : List Int} {tk : Nat} {Q : Flow → Shared → Prop}
    (F : Fr g L h (mX msg mark first ending t1 t2 t3 t4 t5 t6 t7 t8 f size d block n none (.bytes #[] tl) (.bytes #[] tt)))
    (X : (K w.params).In g) (T : Top p loose mean mg mb g) (H : HashAt g f d) (h1 : KBw.bInts first = fs) (h2 : KBw.bInts ending = es) (n1 : fs.length ≤ 72) (n2 : es.length ≤ 300) (d0 : 1 ≤ d) (d1 : d ≤ 72) (k0 : 0 ≤ n) (k1 : n ≤ 3) (hd : dp + 4 < recursionLimit) (hu : un + 60 < cLine)
    (go : ∀ h' tk' kv' bl' tl' bt' tt', Fr g L h' (mX msg mark first ending t1 t2 t3 t4 t5 t6 t7 t8 f size d block n kv' (.bytes bl' tl') (.bytes bt' tt')) → KBw.bInts bt' = roundsL d fs es n.toNat 0 [] → Q .next ⟨h', s.gens, s.drawn, tk', s.os⟩) :
    wpAny (model PySem.Challenge.pw_lh0033_01 w) ((Ar dp un gd outer).deeper (envX4 L)) (exec (bod445.getD 5 (.Pass ⟨0, 0, 0, 0⟩)) (envX4 L)) Q E ⟨h, s.gens, s.drawn, tk, s.os⟩ := by
  have N : News g L h [] := .nil
  show wpAny _ _ (exec (.For tgtX _ bodX [] _) _) _ _ _
  refine wpAny_For ?_
  delta bodX tgtX takeT takeF envX4 sco445 takeS mX
  k_steps
  unfold Halt
  rename Fr _ _ _ _ => F3
  rename IsRange _ _ _ _ _ _ _ _ => R1
  refine wpAny_pyIter_range (s := ⟨_, _, _, _, _⟩) R1 (small_one (by decide) (by decide) (by omega) (by omega)) ?_
  rw [rangeSize_nat, Int.sub_zero]
  dsimp only
  refine codeA_push rfl fun h4 hk4 ht4 hs4 => ?_
  have F4 := frKept F3 hk4
  have N4 := newsHead (newsTop F3 .nil hk4 ht4)
  refine exd_loop (s := s) n.toNat F4 N4 X T H h1 h2 n1 n2 (by decide) d0 d1 (by decide) (by omega) hd hu ?_
  intro h5 tk5 kv5 bl5 tl5 bt5 tt5 F5 N5 hx5
  exact go _ _ _ _ _ _ _ F5 (by rw [hx5]; rfl)
set_option maxHeartbeats 800000 in
theorem exd_spec {bm bk : Array UInt8} {ms ks : List Int} {f : Addr} {size d block : Int} {t1 t2 t3 t4 t5 : Tok}
    (X : (K w.params).In s.heap) (T : Top p loose mean mg mb s.heap) (H : HashAt s.heap f d) (h1 : KBw.bInts bm = ms) (h2 : KBw.bInts bk = ks) (n1 : ms.length ≤ 8) (n2 : ks.length ≤ 255) (z0 : 0 ≤ size) (z1 : size ≤ 3 * d) (d0 : 1 ≤ d) (d1 : d ≤ 72) (b0 : 0 ≤ block) (b1 : block ≤ 8) (hd : dp + 5 < recursionLimit) (hu : un + 80 < cLine)
    (hret : ∀ (b : Array UInt8) (t : Tok) (h' : Heap) (tk' : Nat), Kept s.heap h' → KBw.bInts b = (roundsL d (firstL d ms ks size block) (endL ks) (Int.fdiv (size + d - 1) d).toNat 0 []).take size.toNat → Q (.bytes b t) { s with heap := h', toks := tk' }) :
    wpAny (model PySem.Challenge.pw_lh0033_01 w) (Ar dp un gd outer) (call (.ref 445) [.bytes bm t1, .bytes bk t2, .int size t3, .ref f, .int d t4, .int block t5]) Q E s := by
  obtain ⟨r0, r3⟩ := ceil3 z0 z1 d0
  obtain ⟨q0, q1, q2, q3⟩ := part256 z0 (show size ≤ 65535 by omega)
  (refine wpAny_call ?_; k_dflt (refine' enter (news := []) ?g1 ?g2 ?k3 ?k5 ?kN ?k6 ?k7 ?k8 ?k9 ?kB ?_ ?c2 ?c3 ?c4 ?c5; (case g1 => exact fun _ _ e => e); (case g2 => exact rfl); (case k3 => k_asm); (case k5 => k_asm); (case kN => exact fun _ h => nomatch h); (case k6 => k_is); (case k7 => k_is); (case k8 => first | ktr_room | (dsimp only [Ar]; omega)); (case k9 => exact BindsTo.of_eq rfl); (case c5 => decide); (case kB => exact locs rfl); (case c2 => exact rfl); (case c3 => exact rfl); (case c4 => exact rfl); k_whole; intro L' h' F' N'; (try dsimp only); (try k_fold)))
  k_steps
  rename Fr _ _ _ _ => F1
  rename News _ _ _ _ => N1
  refine call_bytes_ints (vs := (List.replicate block.toNat [Value.int 0 _]).flatten) (ns := List.replicate block.toNat 0) ⟨_, N1.get (by k_mem), rfl, _, rfl⟩ intsRep (fun k hk => by rw [List.eq_of_mem_replicate hk]; decide) (by rw [repLen, sizeLine_eq]; omega) rfl fun hz tz kz hkz => ?_
  have eb0 := KBa.ints_make (ns := List.replicate block.toNat 0) (fun k hk => by rw [List.eq_of_mem_replicate hk]; decide)
  have lb0 : (List.replicate block.toNat (0 : Int)).length ≤ 8 := by rw [List.length_replicate]; omega
  generalize byteArr (List.replicate block.toNat 0) = bz at eb0
  generalize hzs : List.replicate block.toNat (0 : Int) = zs at eb0 lb0
  have F2 := frKept F1 hkz
  have N2 := newsKept N1 hkz
  clear F1 N1
  k_steps
  unfold Halt
  rename Fr _ _ _ _ => F1
  rename News _ _ _ _ => N1
  rename HashAt _ _ _ => H
  refine hashed_spec (s := ⟨_, _, _, _, _⟩) (X.keeps F1.keep) (T.keeps F1.keep) (H.kept F1.keep) (by assumption) ?len d0 d1 (by first | ktr_room | (dsimp only [Ar]; omega)) fun bh th hh tkh kh eh => ?_
  case len => simp; omega
  have F2 := frKept F1 kh
  have N2 := newsNil F2
  clear F1 N1
  dsimp only at F2
  k_steps
  unfold Halt
  rename Fr _ _ _ _ => F3
  rename News _ _ _ _ => N3
  have ehh : KBw.bInts bh = firstL d ms ks size block := by
    rw [eh, oneOct (by omega) (by omega), threeOct q0 q1 q2 q3, ← hzs]; rfl
  have eee : KBw.bInts (bk ++ #[((ks.length : Int)).toNat.toUInt8]) = endL ks := oneEnd h2 (by omega)
  (try dsimp only at F3 N3)
  generalize hn : Int.fdiv (size + d - 1) d = n at *
  refine exd_for (s := s) (frEq F3 (mX_0 (by rfl))) X T H ehh eee hashL_le (by simp [endL]; omega) d0 d1 r0 r3 (by omega) (by omega) ?_
  clear F3 N3
  intro h5 tk5 kv5 bl5 tl5 bt5 tt5 F5 hx5
  have N5 := newsNil F5
  dsimp only
  have lrs := roundsL_len (d := d) (fs := firstL d ms ks size block) (es := endL ks) n.toNat 0 []
  generalize hrs : roundsL d (firstL d ms ks size block) (endL ks) n.toNat 0 [] = rs at *
  k_steps
  ((try dsimp only); (try k_unfold); (try dsimp only))
  rename Fr _ _ _ _ => F6
  refine hret _ _ _ _ F6.keep ?_
  rw [← take_clip z0]
  assumption
end
example : True := by w_top off; first | walk1 | trivial
section
local macro_rules | `(tactic| walk_at "FnAt") => `(tactic| ((with_reducible rename Fr _ _ _ _ => F'); (with_reducible rename HashAt _ _ _ => H'); exact (HashAt.kept H' (Fr.keep F')).fn))
local macro_rules | `(tactic| walk_at "callWith ref") => `(tactic| (k_here; (with_reducible rename Fr _ _ _ _ => F'); (with_reducible rename HashAt _ _ _ => H'); (refine' callWith_F ?k1 ?_; (case k1 => exact (HashAt.kept H' (Fr.keep F')).fn); k_whole)))
local macro_rules | `(tactic| walk_at "exec For Name Call cons nil") => `(tactic| (k_here; refine halt ?_))
local macro_rules | `(tactic| walk_at "call builtin:bytes.join") => `(tactic| (k_here; refine halt ?_))
local macro_rules | `(tactic| walk_at "pyIter ref") => `(tactic| (k_here; refine halt ?_))
theorem ceilN {size d : Int} (z0 : 0 ≤ size) (z1 : size ≤ 3 * d) (d0 : 1 ≤ d) : 0 ≤ -(Int.fdiv (-size) d) ∧ -(Int.fdiv (-size) d) ≤ 3 := by
  rw [Int.fdiv_eq_ediv_of_nonneg _ (by omega : (0 : Int) ≤ d)]
  have h1 : (-size) / d ≤ 0 := Int.ediv_nonpos_of_nonpos_of_neg (by omega) (by omega)
  have h2 : -3 ≤ (-size) / d := (Int.le_ediv_iff_mul_le (by omega)).mpr (by omega)
  omega
local macro_rules | `(tactic| walk_at "binaryOp Mult bytes int") => `(tactic| (k_here; refine halt ?_))
noncomputable abbrev mP63 (msg mark : Array UInt8) (t6 t7 t8 t9 t10 : Tok) (f : Addr) (size d block : Int) : Str → Option Value := fun y =>
  if y = Str.ofString "r_in_bytes" then some (.int block t6) else if y = Str.ofString "b_in_bytes" then some (.int d t7) else if y = Str.ofString "hash_function" then some (.ref f) else if y = Str.ofString "len_in_bytes" then some (.int size t8) else if y = Str.ofString "DST" then some (.bytes mark t9) else if y = Str.ofString "msg" then some (.bytes msg t10) else none
theorem mP63_is {msg mark : Array UInt8} {t6 t7 t8 t9 t10 : Tok} {f : Addr} {size d block : Int} {l : List (Str × Value)}
    (hl : l = [(Str.ofString "r_in_bytes", .int block t6), (Str.ofString "b_in_bytes", .int d t7), (Str.ofString "hash_function", .ref f), (Str.ofString "len_in_bytes", .int size t8), (Str.ofString "DST", .bytes mark t9), (Str.ofString "msg", .bytes msg t10)]) :
    (fun y => List.lookup y l) = mP63 msg mark t6 t7 t8 t9 t10 f size d block := by
  funext y
  subst hl
  simp only [mP63, lookup_if, List.lookup_nil]
theorem replFlat {n : Nat} : (List.replicate n [(0 : Int)]).flatten = List.replicate n 0 := by
  induction n with
  | zero => rfl
  | succ n ih => rw [List.replicate_succ, List.replicate_succ, List.flatten_cons, ih]; rfl
noncomputable def primeL (ks : List Int) : List Int := ks ++ bigOct 1 (ks.length : Int)
noncomputable def zeroL (d : Int) (ms ks : List Int) (size block : Int) : List Int := hashL d (List.replicate block.toNat 0 ++ ms ++ bigOct 2 size ++ [0] ++ primeL ks)
noncomputable def oneL (d : Int) (ms ks : List Int) (size block : Int) : List Int := hashL d (zeroL d ms ks size block ++ [1] ++ primeL ks)
noncomputable def xmdL (d : Int) (ms ks : List Int) (size block : Int) (n : Nat) : List Int := oneL d ms ks size block ++ (blksL d (zeroL d ms ks size block) (primeL ks) n 2 (oneL d ms ks size block)).flatten
theorem tab_ne {g h : Heap} {L D : Addr} {vs : Array Value} {n : Nat} {o : Obj} (N : News g L h [(D, W.listOf vs n), (51, o)]) (hO : TabO o) : D ≠ 51 := by
  intro e
  have q1 := N.get (a := D) (o := W.listOf vs n) (by k_mem)
  have q2 := N.get (a := 51) (o := o) (by k_mem)
  rw [e, q2] at q1
  cases q1
  obtain ⟨_, q, _⟩ := hO
  cases q
theorem mY_00 {msg mark zp lb dpr b0 : Array UInt8} {t1 t2 t3 t4 t5 t6 t7 t8 t9 t10 : Tok} {f D : Addr} {size d block ell : Int} :
    (fun y => if y = Str.ofString "b" then some (.ref D) else if y = Str.ofString "b_0" then some (.bytes b0 t1) else if y = Str.ofString "l_i_b_str" then some (.bytes lb t2) else if y = Str.ofString "Z_pad" then some (.bytes zp t3) else if y = Str.ofString "DST_prime" then some (.bytes dpr t4) else
      if y = Str.ofString "ell" then some (.int ell t5) else mP63 msg mark t6 t7 t8 t9 t10 f size d block y) = mY msg mark zp lb dpr b0 t1 t2 t3 t4 t5 t6 t7 t8 t9 t10 f D size d block ell none := by
  funext y
  by_cases e1 : y = Str.ofString "i"
  · subst e1; rfl
  · simp only [mY, mP63, if_neg e1]
theorem blksL_len {d : Int} {fs es : List Int} : ∀ (m : Nat) (i : Int) (l : List Int), (blksL d fs es m i l).length = m
  | 0, _, _ => rfl
  | m + 1, i, l => by rw [blksL, List.length_cons, blksL_len m]
theorem blksL_le {d : Int} {fs es : List Int} : ∀ (m : Nat) (i : Int) (l : List Int) (x : List Int), x ∈ blksL d fs es m i l → x.length ≤ 72
  | 0, _, _, _, h => by cases h
  | m + 1, i, l, x, h => by
    rw [blksL] at h
    rcases List.mem_cons.mp h with rfl | h
    · exact hashL_le
    · exact blksL_le m _ _ x h
theorem flat_le : ∀ (l : List (List Int)), (∀ x ∈ l, x.length ≤ 72) → l.flatten.length ≤ 72 * l.length
  | [], _ => Nat.le_refl _
  | a :: r, h => by
    rw [List.flatten_cons, List.length_append, List.length_cons]
    have h1 := h a (List.mem_cons_self ..)
    have h2 := flat_le r fun x hx => h x (List.mem_cons_of_mem _ hx)
    omega
theorem xmdL_le {d : Int} {ms ks : List Int} {size block : Int} {n : Nat} : (xmdL d ms ks size block n).length ≤ 72 + 72 * n := by
  rw [xmdL, List.length_append]
  have h1 : (oneL d ms ks size block).length ≤ 72 := hashL_le
  have h2 := flat_le (blksL d (zeroL d ms ks size block) (primeL ks) n 2 (oneL d ms ks size block)) (fun x hx => blksL_le _ _ _ _ hx)
  rw [blksL_len] at h2
  omega
section
variable {prog : Program} {A : Around} {l : Addr}
theorem join_any {nl : List (Array UInt8 × Tok)} {bo : Array UInt8} {t to : Tok} {n : Nat} (hl : s.heap.get? l = some (W.listOf (Value.bytes bo to :: nl.map fun p => Value.bytes p.1 p.2).toArray n)) (hn : nl.length ≤ 2) (hz : bo.size ≤ 72) (hz2 : ∀ p ∈ nl, p.1.size ≤ 72)
    (h : ∀ bj t' k', KBw.bInts bj = KBw.bInts bo ++ (nl.map fun p => KBw.bInts p.1).flatten → Q (.bytes bj t') { s with toks := k' }) : wpAny (model prog w) A (call (.builtin "bytes.join") [.bytes #[] t, .ref l]) Q E s := by
  rcases nl with _ | ⟨p1, _ | ⟨p2, _ | ⟨p3, r⟩⟩⟩
  · exact join1 hl (h _ _ s.toks (by simp))
  · have q1 := hz2 p1 (by simp)
    exact join2 hl (by omega) fun t' k' => h _ t' k' (by rw [KBw.ints_app rfl rfl]; simp)
  · have q1 := hz2 p1 (by simp)
    have q2 := hz2 p2 (by simp)
    exact join3 hl (by omega) fun t' k' => h _ t' k' (by rw [KBw.ints_app (KBw.ints_app rfl rfl) rfl]; simp)
  · simp at hn
end
set_option maxHeartbeats 800000 in
theorem exm_spec {bm bk : Array UInt8} {ms ks : List Int} {f : Addr} {size d block : Int} {t1 t2 t3 t4 t5 : Tok}
    (X : (K w.params).In (s.heap.hide 51)) (T : Top p loose mean mg mb (s.heap.hide 51)) (hT : TabX 55 51 s.heap) (H : HashAt (s.heap.hide 51) f d) (h1 : KBw.bInts bm = ms) (h2 : KBw.bInts bk = ks) (n1 : ms.length ≤ 8) (n2 : ks.length ≤ 255) (z0 : 0 ≤ size) (z1 : size ≤ 3 * d) (d0 : 1 ≤ d) (d1 : d ≤ 72) (b0 : 0 ≤ block) (b1 : block ≤ 8) (hd : dp + 5 < recursionLimit) (hu : un + 80 < cLine)
    (hret : ∀ (b : Array UInt8) (t : Tok) (h' : Heap) (tk' : Nat) (g' : GensOf s.gens), Heap.ExtBut 51 s.heap h' → TabX 55 51 h' → KBw.bInts b = (xmdL d ms ks size block (-(Int.fdiv (-size) d) - 1).toNat).take size.toNat → Q (.bytes b t) ⟨h', g'.1, s.drawn, tk', s.os⟩) :
    wpAny (model PySem.Challenge.pw_lh0033_01 w) (Ar dp un gd outer) (call (.ref 63) [.bytes bm t1, .bytes bk t2, .int size t3, .ref f, .int d t4, .int block t5]) Q E s := by
  obtain ⟨r0, r3⟩ := ceilN z0 z1 d0
  obtain ⟨o51, ho51, hO⟩ := hT.obj
  have N0 : ∀ p ∈ [((51 : Addr), o51)], s.heap.get? p.1 = some p.2 ∧ (s.heap.hide 51).get? p.1 = none := fun p hp => by
    rcases List.mem_singleton.mp hp with rfl
    exact ⟨ho51, Heap.hide_self _ _⟩
  (refine wpAny_call ?_; k_dflt (refine' enter (g := Heap.hide _ 51) ?g1 ?g2 ?k3 ?k5 ?kN ?k6 ?k7 ?k8 ?k9 ?kB ?_ ?c2 ?c3 ?c4 ?c5; (case g1 => exact keptHide _ _); (case g2 => exact Heap.hide_size _ _); (case k3 => k_asm); (case k5 => k_asm); (case kN => assumption); (case k6 => k_is); (case k7 => k_is); (case k8 => first | ktr_room | (dsimp only [Ar]; omega)); (case k9 => exact BindsTo.of_eq rfl); (case c5 => decide); (case kB => exact locs rfl); (case c2 => exact rfl); (case c3 => exact rfl); (case c4 => exact rfl); k_whole; intro L' h' F' N'; (try dsimp only); (try k_fold)))
  rename Fr _ _ _ _ => F1
  have F2 := frEq F1 (mP63_is (by rfl))
  clear F1
  k_steps
  unfold Halt
  rename Fr _ _ _ _ => F1
  rename News _ _ _ _ => N1
  refine i2osp_spec (k := 1) (s := ⟨_, _, _, _, _⟩) (X.keeps F1.keep) (T.keeps F1.keep) (by omega) (by decide) (by omega) (by first | ktr_room | (dsimp only [Ar]; omega)) (by first | ktr_room | (dsimp only [Ar]; omega)) fun bi ti hi tki ki ei => ?_
  obtain ⟨is, his⟩ : ∃ is, is = bigOct 1 (ks.length : Int) := ⟨_, rfl⟩
  have li : is.length = 1 := by rw [his, bigOct_length]
  rw [← his] at ei
  have F2 := frKept F1 ki
  have N2 := newsKept N1 ki
  clear F1 N1
  k_steps
  all_goals first | exact True.intro | skip
  unfold Halt
  refine mulB (ks := [0]) rfl (by decide) (by decide) b0 (by omega) fun bz tz kz hz => ?_
  rw [replFlat] at hz
  obtain ⟨zs, hzs⟩ : ∃ zs, zs = List.replicate block.toNat (0 : Int) := ⟨_, rfl⟩
  have lz : zs.length ≤ 8 := by rw [hzs, List.length_replicate]; omega
  rw [← hzs] at hz
  k_steps
  all_goals first | exact True.intro | skip
  unfold Halt
  rename Fr _ _ _ _ => F1
  rename News _ _ _ _ => N1
  refine i2osp_spec (k := 2) (s := ⟨_, _, _, _, _⟩) (X.keeps F1.keep) (T.keeps F1.keep) (by omega) (by decide) (by omega) (by first | ktr_room | (dsimp only [Ar]; omega)) (by first | ktr_room | (dsimp only [Ar]; omega)) fun bl tl hl tkl kl el => ?_
  obtain ⟨ls, hls⟩ : ∃ ls, ls = bigOct 2 size := ⟨_, rfl⟩
  have ll : ls.length = 2 := by rw [hls, bigOct_length]
  rw [← hls] at el
  have F2 := frKept F1 kl
  have N2 := newsKept N1 kl
  clear F1 N1
  k_steps
  all_goals first | exact True.intro | skip
  unfold Halt
  rename Fr _ _ _ _ => F1
  rename News _ _ _ _ => N1
  rename HashAt _ _ _ => H
  refine hashed_spec (s := ⟨_, _, _, _, _⟩) (X.keeps F1.keep) (T.keeps F1.keep) (H.kept F1.keep) (by assumption) ?len d0 d1 (by first | ktr_room | (dsimp only [Ar]; omega)) fun bh th hh tkh kh eh => ?_
  case len => simp; omega
  have ehh : KBw.bInts bh = zeroL d ms ks size block := by rw [eh, hzs, hls, his]; rfl
  have F2 := frKept F1 kh
  have N2 := newsKept N1 kh
  have lhh : (zeroL d ms ks size block).length ≤ 72 := hashL_le
  clear F1 N1
  k_steps
  all_goals first | exact True.intro | skip
  unfold Halt
  rename Fr _ _ _ _ => F1
  rename News _ _ _ _ => N1
  rename HashAt _ _ _ => H
  refine hashed_spec (s := ⟨_, _, _, _, _⟩) (X.keeps F1.keep) (T.keeps F1.keep) (H.kept F1.keep) (by assumption) ?len2 d0 d1 (by first | ktr_room | (dsimp only [Ar]; omega)) fun bo to ho tko ko eo => ?_
  case len2 => simp; omega
  have eoo : KBw.bInts bo = oneL d ms ks size block := by rw [eo, his]; rfl
  have F2 := frKept F1 ko
  have N2 := newsKept N1 ko
  clear F1 N1
  k_steps
  all_goals first | exact True.intro | skip
  unfold Halt
  rename Fr _ _ _ _ => F1
  rename News _ _ _ _ => N1
  have edp : KBw.bInts (bk ++ bi) = primeL ks := by rw [KBw.ints_app h2 ei, his]; rfl
  refine exm_for (s := s) (frEq F1 mY_00) N1 hO (tab_ne N1 hO) X T H ehh edp lhh (by simp [primeL, bigOct_length]; omega) d0 d1 r0 r3 (by omega) (by omega) ?_
  clear F1 N1
  intro h5 tk5 gn5 iv5 nl nv5 o515 F5 N5 hO5 hx5
  rw [eoo] at hx5
  dsimp only
  k_steps
  refine bj_method ?_
  k_steps
  unfold Halt
  rename Fr _ _ _ _ => F1
  rename News _ _ _ _ => N1
  have ln2 : nl.length = (-(Int.fdiv (-size) d) - 1).toNat := by
    have q := congrArg List.length hx5
    rwa [List.length_map, blksL_len] at q
  refine join_any (s := ⟨_, _, _, _, _⟩) (N1.get (by k_mem)) (by omega) (by rw [← KBw.ints_length, eoo]; exact hashL_le) (fun p hp => by
    rw [← KBw.ints_length]
    exact blksL_le _ _ _ _ (by rw [← hx5]; exact List.mem_map_of_mem (f := fun p : Array UInt8 × Tok => KBw.bInts p.1) hp)) fun bj tj kj ej => ?_
  have ejj : KBw.bInts bj = xmdL d ms ks size block (-(Int.fdiv (-size) d) - 1).toNat := by rw [ej, eoo, hx5]; rfl
  have lxx : (xmdL d ms ks size block (-(Int.fdiv (-size) d) - 1).toNat).length ≤ 72 + 72 * (-(Int.fdiv (-size) d) - 1).toNat := xmdL_le
  generalize hws : xmdL d ms ks size block (-(Int.fdiv (-size) d) - 1).toNat = ws at *
  k_steps
  ((try dsimp only); (try k_unfold); (try dsimp only))
  rename Fr _ _ _ _ => F6
  rename News _ _ _ _ => N6
  refine hret _ _ _ _ _ (fun b o hb e => F6.keep b o ((Heap.hide_ne _ hb).trans e)) (hO5.tab ((code55 X).keeps F6.keep) (N6.get (by k_mem))) ?_
  rw [← take_clip z0]
  assumption
end
example : True := by w_top off; first | walk1 | trivial
section
set_option maxHeartbeats 800000 in
theorem told_spec {bm bk : Array UInt8} {ms ks : List Int} {f : Addr} {size d block : Int} {t1 t2 t3 t4 t5 : Tok}
    (X : (K w.params).In (s.heap.hide 51)) (T : Top p loose mean mg mb (s.heap.hide 51)) (hT : TabX 55 51 s.heap) (H : HashAt (s.heap.hide 51) f d) (h1 : KBw.bInts bm = ms) (h2 : KBw.bInts bk = ks) (n1 : ms.length ≤ 8) (n2 : ks.length ≤ 255) (z0 : 0 ≤ size) (z1 : size ≤ 3 * d) (d0 : 1 ≤ d) (d1 : d ≤ 72) (b0 : 0 ≤ block) (b1 : block ≤ 8) (hd : dp + 6 < recursionLimit) (hu : un + 90 < cLine)
    (hret : ∀ (b : Array UInt8) (t : Tok) (h' : Heap) (tk' : Nat) (g' : GensOf s.gens), Heap.ExtBut 51 s.heap h' → TabX 55 51 h' → KBw.bInts b = (xmdL d ms ks size block (-(Int.fdiv (-size) d) - 1).toNat).take size.toNat → Q (.bytes b t) ⟨h', g'.1, s.drawn, tk', s.os⟩) :
    wpAny (model PySem.Challenge.pw_lh0033_01 w) (Ar dp un gd outer) (call (.ref 452) [.bytes bm t1, .bytes bk t2, .int size t3, .ref f, .int d t4, .int block t5]) Q E s := by
  obtain ⟨o51, ho51, hO⟩ := hT.obj
  have N0 : ∀ p ∈ [((51 : Addr), o51)], s.heap.get? p.1 = some p.2 ∧ (s.heap.hide 51).get? p.1 = none := fun p hp => by
    rcases List.mem_singleton.mp hp with rfl
    exact ⟨ho51, Heap.hide_self _ _⟩
  (refine wpAny_call ?_; k_dflt (refine' enter (g := Heap.hide _ 51) ?g1 ?g2 ?k3 ?k5 ?kN ?k6 ?k7 ?k8 ?k9 ?kB ?_ ?c2 ?c3 ?c4 ?c5; (case g1 => exact keptHide _ _); (case g2 => exact Heap.hide_size _ _); (case k3 => k_asm); (case k5 => k_asm); (case kN => assumption); (case k6 => k_is); (case k7 => k_is); (case k8 => first | ktr_room | (dsimp only [Ar]; omega)); (case k9 => exact BindsTo.of_eq rfl); (case c5 => decide); (case kB => exact locs rfl); (case c2 => exact rfl); (case c3 => exact rfl); (case c4 => exact rfl); k_whole; intro L' h' F' N'; (try dsimp only); (try k_fold)))
  k_steps
  unfold Halt
  rename Fr _ _ _ _ => F1
  rename News _ _ _ _ => N1
  have h51 := Heap.hide_self s.heap 51
  refine exm_spec (s := ⟨_, _, _, _, _⟩) (X.keeps (keptHide2 F1.keep h51)) (T.keeps (keptHide2 F1.keep h51)) (hO.tab ((code55 X).keeps F1.keep) (N1.get (by k_mem))) (H.kept (keptHide2 F1.keep h51)) h1 h2 n1 n2 z0 z1 d0 d1 b0 b1 (by first | ktr_room | (dsimp only [Ar]; omega)) (by first | ktr_room | (dsimp only [Ar]; omega)) fun b t h' tk' g' kx xx ex => ?_
  k_steps
  ((try dsimp only); (try k_unfold); (try dsimp only))
  refine hret _ _ _ _ _ (fun c o hb e => kx c o hb (F1.keep c o ((Heap.hide_ne _ hb).trans e))) xx ex
end
example : True := by w_top off; first | walk1 | trivial
section
local macro_rules | `(tactic| walk_at "leaving ref") => `(tactic| (k_here; refine halt ?_))
set_option maxHeartbeats 800000 in
theorem told_refused {bm bk : Array UInt8} {f : Addr} {size d block : Int} {t1 t2 t3 t4 t5 : Tok} {eo : Env} {Lo : Addr} {oLo : Obj}
    (heo : eo.frame = some Lo) (hko : eo.scope.kind ≠ .module) (hdo : ∀ vs, oLo.data ≠ .fields vs) (hLo : s.heap.get? Lo = some oLo)
    (X : (K w.params).In (s.heap.hide Lo)) (T : Top p loose mean mg mb (s.heap.hide Lo)) (z0 : 0 ≤ size) (z1 : size ≤ 10000) (d0 : 1 ≤ d) (d1 : d ≤ 72) (hr : 255 < (bk.size : Int) ∨ 255 < -(Int.fdiv (-size) d)) (nk : bk.size ≤ 1000) (hd : dp + 6 < recursionLimit) (hu : un + 90 < cLine)
    (hret : ∀ (t : Tok) (h' : Heap) (tk' : Nat), Kept (s.heap.hide Lo) h' → (∃ sl, h'.get? Lo = some { oLo with slots := sl }) → Q (.str (Str.ofString "refused") t) { s with heap := h', toks := tk' }) :
    wpAny (model PySem.Challenge.pw_lh0033_01 w) (Ar dp un gd [eo]) (call (.ref 452) [.bytes bm t1, .bytes bk t2, .int size t3, .ref f, .int d t4, .int block t5]) Q E s := by
  obtain ⟨ks, hk⟩ : ∃ ks, KBw.bInts bk = ks := ⟨_, rfl⟩
  have hl : ks.length = bk.size := by rw [← hk, KBw.ints_length]
  have N0 : ∀ p ∈ [(Lo, oLo)], s.heap.get? p.1 = some p.2 ∧ (s.heap.hide Lo).get? p.1 = none := fun p hp => by
    rcases List.mem_singleton.mp hp with rfl
    exact ⟨hLo, Heap.hide_self _ _⟩
  refine wpAny_call ?_
  k_dflt (refine' enter (g := Heap.hide _ Lo) ?g1 ?g2 ?k3 ?k5 ?kN ?k6 ?k7 ?k8 ?k9 ?kB ?_ ?c2 ?c3 ?c4 ?c5; (case g1 => exact keptHide _ _); (case g2 => exact Heap.hide_size _ _); (case k3 => k_asm); (case k5 => k_asm); (case kN => assumption); (case k6 => k_is); (case k7 => k_is); (case k8 => first | ktr_room | (dsimp only [Ar]; omega)); (case k9 => exact BindsTo.of_eq rfl); (case c5 => decide); (case kB => exact locs rfl); (case c2 => exact rfl); (case c3 => exact rfl); (case c4 => exact rfl); k_whole; intro L' h' F' N'; (try dsimp only); (try k_fold))
  k_steps
  unfold Halt
  rename Fr _ _ _ _ => F1
  rename News _ _ _ _ => N1
  have X1 := X.keeps F1.keep
  have T1 := T.keeps F1.keep
  have FT := F1
  have NT := N1
  have XT := X
  have TT := T
  clear F1 N1 X T
  (refine wpAny_call ?_; k_dflt (refine' enter (news := []) ?g1 ?g2 ?k3 ?k5 ?kN ?k6 ?k7 ?k8 ?k9 ?kB ?_ ?c2 ?c3 ?c4 ?c5; (case g1 => exact fun _ _ e => e); (case g2 => exact rfl); (case k3 => k_asm); (case k5 => k_asm); (case kN => exact fun _ h => nomatch h); (case k6 => k_is); (case k7 => k_is); (case k8 => first | ktr_room | (dsimp only [Ar]; omega)); (case k9 => exact BindsTo.of_eq rfl); (case c5 => decide); (case kB => exact locs rfl); (case c2 => exact rfl); (case c3 => exact rfl); (case c4 => exact rfl); k_whole; intro L' h' F' N'; (try dsimp only); (try k_fold)))
  k_steps
  all_goals unfold Halt
  all_goals (
    rename Fr _ _ _ _ => F2
    refine raise_caught rfl heo hko hdo FT NT F2 (by assumption) XT TT (by k_is) fun h7 k7 sl7 F7 => ?_)
  all_goals (
    clear FT NT F2
    have N7 := newsNil F7
    k_steps
    ((try dsimp only); (try k_unfold); (try dsimp only))
    exact hret _ _ _ k7 sl7)
end
example : True := by w_top off; first | walk1 | trivial
section
theorem hide2_l (h : Heap) (x dx : Addr) : ((h.hide x).hide dx).get? x = none := by
  by_cases e : x = dx
  · subst e; exact Heap.hide_self _ _
  · exact (Heap.hide_ne _ e).trans (Heap.hide_self _ _)
theorem keptWhole2 {h h' : Heap} {x dx : Addr} {ox od : Obj} (k : Kept ((h.hide x).hide dx) h') (e : h'.get? x = some ox) (e0 : h.get? x = some ox) (f : h'.get? dx = some od) (f0 : h.get? dx = some od) : Kept h h' := fun b ob eb => by
  by_cases q : b = x
  · subst q; rw [e0] at eb; cases eb; exact e
  · by_cases r : b = dx
    · subst r; rw [f0] at eb; cases eb; exact f
    · exact k _ _ ((Heap.hide_ne _ r).trans ((Heap.hide_ne _ q).trans eb))
set_option maxHeartbeats 400000 in
/-- FQ.made -/
theorem fq_made {x dx : Addr} {v q n : Int} {t1 a1 a2 a3 a4 : Tok} (hq : 1 ≤ q) (hx : s.heap.get? x = some (instObj 249 dx)) (hdx : s.heap.get? dx = some (fqDict w.params q n a1 a2 a3 a4))
    (X : (K w.params).In ((s.heap.hide x).hide dx)) (T : Top p loose mean mg mb ((s.heap.hide x).hide dx)) (hd : dp + 8 < recursionLimit) (hu : un + 120 < cLine)
    (hret : ∀ (x dx : Addr) (a1 a2 a3 a4 : Tok) (h' : Heap) (tk' : Nat), Kept s.heap h' → h'.get? x = some (instObj 249 dx) → h'.get? dx = some (fqDict w.params q (Int.fmod v q) a1 a2 a3 a4) → s.heap.objs.size ≤ dx → dx < x → Q (.ref x) { s with heap := h', toks := tk' }) :
    wpAny (model PySem.Challenge.pw_lh0033_01 w) (Ar dp un gd outer) (call (.ref 232) [.ref x, .int v t1]) Q E s := by
  have N0 : ∀ p ∈ [(x, instObj 249 dx), (dx, fqDict w.params q n a1 a2 a3 a4)], s.heap.get? p.1 = some p.2 ∧ ((s.heap.hide x).hide dx).get? p.1 = none := by
    intro p hp
    simp only [List.mem_cons, List.not_mem_nil, or_false] at hp
    rcases hp with rfl | rfl
    · exact ⟨hx, hide2_l _ _ _⟩
    · exact ⟨hdx, Heap.hide_self _ _⟩
  refine wpAny_call ?_
  refine' enterLe (g := (s.heap.hide x).hide dx) (fun b o e => Heap.of_hide (Heap.of_hide e)) (by rw [Heap.hide_size, Heap.hide_size]; exact Nat.le_refl _) X T N0 ?k6 ?k7 ?k8 ?k9 ?kB ?_ ?c2 ?c3 ?c4 ?c5
  case k6 => k_is
  case k7 => k_is
  case k8 => first | ktr_room | (dsimp only [Ar]; omega)
  case k9 => exact BindsTo.of_eq rfl
  case kB => exact locs rfl
  case c2 => exact rfl
  case c3 => exact rfl
  case c4 => exact rfl
  case c5 => decide
  intro L' h' F' N'
  (try dsimp only)
  (try k_fold)
  k_steps
  unfold Halt
  rename Fr _ _ _ _ => F1
  rename News _ _ _ _ => N1
  have kF : Kept s.heap _ := keptWhole2 F1.keep (N1.get (by k_mem)) hx (N1.get (by k_mem)) hdx
  have ab := F1.above
  rw [Heap.hide_size, Heap.hide_size] at ab
  refine fq_new (s := ⟨_, _, _, _, _⟩) hq (X.keeps F1.keep) (T.keeps F1.keep) (by first | ktr_room | (dsimp only [Ar]; omega)) (by first | ktr_room | (dsimp only [Ar]; omega)) fun y dy b1 b2 b3 b4 h7 tk7 k7 e1 e2 l1 l2 => ?_
  ((try dsimp only); (try k_unfold); (try dsimp only))
  exact hret _ _ _ _ _ _ _ _ (fun b o e => k7 _ _ (kF _ _ e)) e1 e2 (Nat.le_trans ab (Nat.le_trans (Nat.le_of_lt F1.ns.lt) l1)) l2
end
example : True := by w_top off; first | walk1 | trivial
section
local macro_rules | `(tactic| walk_at "exec For Name Call cons nil") => `(tactic| (k_here; refine halt ?_))
local macro_rules | `(tactic| walk_at "pyIter ref") => `(tactic| (k_here; refine halt ?_))
local macro_rules | `(tactic| walk_at "call type:tuple") => `(tactic| (k_here; refine halt ?_))
local macro_rules | `(tactic| walk_at "call builtin:list.append") => `(tactic| (k_here; refine halt ?_))
theorem newsCh {g h h' : Heap} {L D : Addr} {o o' : Obj} {pre post : List (Addr × Obj)} (N : News g L h (pre ++ (D, o) :: post)) (he : h'.get? D = some o') (k : ∀ b o, b ≠ D → h.get? b = some o → h'.get? b = some o) (hn : ∀ p ∈ pre ++ post, p.1 ≠ D) : News g L h' (pre ++ (D, o') :: post) := by
  intro p hp
  rcases List.mem_append.mp hp with q | q
  · have m := N p (List.mem_append_left _ q)
    exact ⟨k _ _ (hn p (List.mem_append_left _ q)) m.1, m.2⟩
  · rcases List.mem_cons.mp q with rfl | q
    · exact ⟨he, (N (D, o) (List.mem_append_right _ (List.mem_cons_self ..))).2⟩
    · have m := N p (List.mem_append_right _ (List.mem_cons_of_mem _ q))
      exact ⟨k _ _ (hn p (List.mem_append_right _ q)) m.1, m.2⟩
theorem newsDrop {g h h' : Heap} {L D : Addr} {o : Obj} {pre post : List (Addr × Obj)} (N : News g L h (pre ++ (D, o) :: post)) (k : ∀ b o, b ≠ D → h.get? b = some o → h'.get? b = some o) (hn : ∀ p ∈ pre ++ post, p.1 ≠ D) : News g L h' (pre ++ post) := by
  intro p hp
  rcases List.mem_append.mp hp with q | q
  · have m := N p (List.mem_append_left _ q)
    exact ⟨k _ _ (hn p hp) m.1, m.2⟩
  · have m := N p (List.mem_append_right _ (List.mem_cons_of_mem _ q))
    exact ⟨k _ _ (hn p hp) m.1, m.2⟩
noncomputable abbrev gFq (h : Heap) (x dx : Addr) : Heap := ((h.hide 51).hide x).hide dx
noncomputable abbrev mP77 (msg mark : Array UInt8) (t1 t2 t3 t4 t5 : Tok) (f x : Addr) (d block : Int) : Str → Option Value := fun y =>
  if y = Str.ofString "field" then some (.ref x) else if y = Str.ofString "r_in_bytes" then some (.int block t5) else if y = Str.ofString "b_in_bytes" then some (.int d t4) else if y = Str.ofString "hash_function" then some (.ref f) else if y = Str.ofString "DST" then some (.bytes mark t3) else if y = Str.ofString "count" then some (.int 1 t2) else if y = Str.ofString "message" then some (.bytes msg t1) else none
theorem mP77_is {msg mark : Array UInt8} {t1 t2 t3 t4 t5 : Tok} {f x : Addr} {d block : Int} {l : List (Str × Value)}
    (hl : l = [(Str.ofString "field", .ref x), (Str.ofString "r_in_bytes", .int block t5), (Str.ofString "b_in_bytes", .int d t4), (Str.ofString "hash_function", .ref f), (Str.ofString "DST", .bytes mark t3), (Str.ofString "count", .int 1 t2), (Str.ofString "message", .bytes msg t1)]) :
    (fun y => List.lookup y l) = mP77 msg mark t1 t2 t3 t4 t5 f x d block := by
  funext y
  subst hl
  simp only [mP77, lookup_if, List.lookup_nil]
theorem tab_ne' {g h : Heap} {L a : Addr} {o o51 : Obj} {news : List (Addr × Obj)} (N : News g L h news) (ha : (a, o) ∈ news) (hb : (51, o51) ∈ news) (hO : TabO o51) (hd : ∀ vs, o.data ≠ .fields vs) : a ≠ 51 := by
  intro e
  have q1 := N.get ha
  have q2 := N.get hb
  rw [e, q2] at q1
  cases q1
  obtain ⟨_, q, _⟩ := hO
  exact hd _ (by rw [q])
set_option maxHeartbeats 800000 in
theorem htf1_spec {bm bk : Array UInt8} {ms ks : List Int} {f x dx : Addr} {d block q n : Int} {t1 t2 t3 t4 t5 a1 a2 a3 a4 : Tok} (hq : 1 ≤ q) (hx : s.heap.get? x = some (instObj 249 dx)) (hdx : s.heap.get? dx = some (fqDict w.params q n a1 a2 a3 a4)) (hx51 : x ≠ 51) (hdx51 : dx ≠ 51)
    (X : (K w.params).In (gFq s.heap x dx)) (T : Top p loose mean mg mb (gFq s.heap x dx)) (hT : TabX 55 51 s.heap) (H : HashAt (gFq s.heap x dx) f d) (h1 : KBw.bInts bm = ms) (h2 : KBw.bInts bk = ks) (n1 : ms.length ≤ 8) (n2 : ks.length ≤ 255) (d0 : 64 ≤ d) (d1 : d ≤ 72) (b0 : 0 ≤ block) (b1 : block ≤ 8) (hd : dp + 12 < recursionLimit) (hu : un + 200 < cLine)
    (hret : ∀ (tu x2 dx2 : Addr) (c1 c2 c3 c4 : Tok) (h' : Heap) (tk' : Nat) (g' : GensOf s.gens), Heap.ExtBut 51 s.heap h' → TabX 55 51 h' → h'.get? tu = some { cls := .type "tuple", data := .seq #[.ref x2] } → h'.get? x2 = some (instObj 249 dx2) →
      h'.get? dx2 = some (fqDict w.params q (Int.fmod (Int.fmod (KFB.value ((xmdL d ms ks 64 block (-(Int.fdiv (-64) d) - 1).toNat).take 64)) q) q) c1 c2 c3 c4) → s.heap.objs.size ≤ dx2 → dx2 < x2 → x2 < tu → Q (.ref tu) ⟨h', g'.1, s.drawn, tk', s.os⟩) :
    wpAny (model PySem.Challenge.pw_lh0033_01 w) (Ar dp un gd outer) (call (.ref 77) [.bytes bm t1, .int 1 t2, .bytes bk t3, .ref f, .int d t4, .int block t5, .ref x]) Q E s := by
  obtain ⟨o51, ho51, hO⟩ := hT.obj
  have N0 : ∀ p ∈ [(x, instObj 249 dx), (dx, fqDict w.params q n a1 a2 a3 a4), (51, o51)], s.heap.get? p.1 = some p.2 ∧ (gFq s.heap x dx).get? p.1 = none := by
    intro p hp
    simp only [List.mem_cons, List.not_mem_nil, or_false] at hp
    rcases hp with rfl | rfl | rfl
    · exact ⟨hx, hide2_l _ _ _⟩
    · exact ⟨hdx, Heap.hide_self _ _⟩
    · exact ⟨ho51, (Heap.hide_ne _ (Ne.symm hdx51)).trans ((Heap.hide_ne _ (Ne.symm hx51)).trans (Heap.hide_self _ _))⟩
  refine wpAny_call ?_
  refine' enterLe (g := gFq s.heap x dx) (fun b o e => Heap.of_hide (Heap.of_hide (Heap.of_hide e))) (by rw [Heap.hide_size, Heap.hide_size, Heap.hide_size]; exact Nat.le_refl _) X T N0 ?k6 ?k7 ?k8 ?k9 ?kB ?_ ?c2 ?c3 ?c4 ?c5
  case k6 => k_is
  case k7 => k_is
  case k8 => first | ktr_room | (dsimp only [Ar]; omega)
  case k9 => exact BindsTo.of_eq rfl
  case kB => exact locs rfl
  case c2 => exact rfl
  case c3 => exact rfl
  case c4 => exact rfl
  case c5 => decide
  intro L' h' F' N'
  (try dsimp only)
  (try k_fold)
  have F2 := frEq F' (mP77_is (by rfl))
  clear F'
  k_steps
  unfold Halt
  rename Fr _ _ _ _ => F1
  rename News _ _ _ _ => N1
  have h51 : (gFq s.heap x dx).get? 51 = none := (N1 (51, o51) (by k_mem)).2.2
  have hL51 : L' ≠ 51 := Ne.symm (N1 (51, o51) (by k_mem)).2.1
  refine exm_spec (s := ⟨_, _, _, _, _⟩) (X.keeps (keptHide2 F1.keep h51)) (T.keeps (keptHide2 F1.keep h51)) (hO.tab ((code55 X).keeps F1.keep) (N1.get (by k_mem))) (H.kept (keptHide2 F1.keep h51)) h1 h2 n1 n2 (by decide) (by omega) (by omega) d1 b0 b1 (by first | ktr_room | (dsimp only [Ar]; omega)) (by first | ktr_room | (dsimp only [Ar]; omega)) fun be te he tke ge ke xe ee => ?_
  obtain ⟨o51', e51, hO'⟩ := xe.obj
  have F2 := frExt F1 h51 hL51 ke
  have N2 : News (gFq s.heap x dx) L' he [(x, instObj 249 dx), (dx, fqDict w.params q n a1 a2 a3 a4), (51, o51')] := by
    intro p hp
    simp only [List.mem_cons, List.not_mem_nil, or_false] at hp
    rcases hp with rfl | rfl | rfl
    · exact ⟨ke _ _ hx51 (N1.get (by k_mem)), (N1 (x, instObj 249 dx) (by k_mem)).2⟩
    · exact ⟨ke _ _ hdx51 (N1.get (by k_mem)), (N1 (dx, fqDict w.params q n a1 a2 a3 a4) (by k_mem)).2⟩
    · exact ⟨e51, Ne.symm hL51, h51⟩
  clear F1 N1
  (try dsimp only at F2 N2)
  have le : (xmdL d ms ks (1 * 1 * 64) block (-(Int.fdiv (-(1 * 1 * 64)) d) - 1).toNat).length ≤ 72 + 72 * (-(Int.fdiv (-(1 * 1 * 64)) d) - 1).toNat := xmdL_le
  generalize hes : (xmdL d ms ks (1 * 1 * 64) block (-(Int.fdiv (-(1 * 1 * 64)) d) - 1).toNat).take (1 * 1 * 64 : Int).toNat = es at ee
  have les : es.length ≤ 64 := by rw [← hes]; exact List.length_take_le _ _
  k_steps
  unfold Halt
  refine wpAny_For ?_
  k_steps
  unfold Halt
  rename Fr _ _ _ _ => F1
  rename News _ _ _ _ => N1
  rename IsRange _ _ _ _ _ _ _ _ => R1
  refine wpAny_pyIter_range (s := ⟨_, _, _, _, _⟩) R1 (small_one (by decide) (by decide) (by decide) (by decide)) ?_
  rw [rangeSize_nat]
  (try dsimp only)
  refine codeA_push rfl fun h4 hk4 ht4 hs4 => ?_
  have F4 := frKept F1 hk4
  have N4 := newsTop F1 N1 hk4 ht4
  have hlt := fun p hp => Nat.ne_of_lt (Heap.lt_size (N1 p hp).1)
  have hU51 := tab_ne' N1 (List.mem_cons_self ..) (by k_mem) hO' (fun _ q => by cases q)
  clear F1 N1
  refine codeA_forTurn ?_
  refine wpAny_pyNext_range_item (s := ⟨_, _, _, _, _⟩) (N4.get (by k_mem)) (by decide) fun h5 e5 sb5 => ?_
  dsimp only
  have hI := N4 _ (List.mem_cons_self ..)
  have F5 := frExt F4 hI.2.2 (Ne.symm hI.2.1) sb5.extBut
  have N5 := newsBut N4 e5 sb5.extBut hlt
  clear F4 N4
  refine wpAny_assign_Name (stN (s := ⟨_, _, _, _, _⟩) F5 N5 fun h6 F6 N6 => ?_)
  clear F5 N5
  k_steps
  unfold Halt
  rename Fr _ _ _ _ => F1
  rename News _ _ _ _ => N1
  rename KBw.bInts _ = List.take _ _ => ek
  obtain ⟨vs, hvs⟩ : ∃ vs, vs = KBw.bInts (KBy.picked be (some (64 * (0 * 1))) (some (64 * (0 * 1) + 64))) := ⟨_, rfl⟩
  have lvs : vs.length ≤ 64 := by rw [hvs, ek, List.length_take, List.length_drop]; omega
  refine os2ip_spec (s := ⟨_, _, _, _, _⟩) (X.keeps F1.keep) (T.keeps F1.keep) hvs.symm (by omega) (by first | ktr_room | (dsimp only [Ar]; omega)) fun to ho tko ko => ?_
  have F2 := frKept F1 ko
  have N2 := newsKept N1 ko
  clear F1 N1
  k_steps
  unfold Halt
  rename Fr _ _ _ _ => F1
  rename News _ _ _ _ => N1
  have gx := (N1 (x, instObj 249 dx) (by k_mem)).2.2
  have gdx := (N1 (dx, fqDict w.params q n a1 a2 a3 a4) (by k_mem)).2.2
  have kg := keptHide2 (keptHide2 F1.keep gx) gdx
  refine fq_made (s := ⟨_, _, _, _, _⟩) hq (N1.get (by k_mem)) (N1.get (by k_mem)) (X.keeps kg) (T.keeps kg) (by first | ktr_room | (dsimp only [Ar]; omega)) (by first | ktr_room | (dsimp only [Ar]; omega)) fun x2 dx2 c1 c2 c3 c4 hm tkm km em1 em2 lm1 lm2 => ?_
  dsimp only at lm1
  have F2 := frKept F1 km
  have ab := F1.above
  have lt1 := F1.ns.lt
  have N2 := newsCons em1 (Nat.lt_trans (Nat.lt_of_lt_of_le lt1 lm1) lm2) (Nat.le_trans ab (Nat.le_trans (Nat.le_of_lt lt1) (Nat.le_trans lm1 (Nat.le_of_lt lm2)))) (newsCons em2 (Nat.lt_of_lt_of_le lt1 lm1) (Nat.le_trans ab (Nat.le_trans (Nat.le_of_lt lt1) lm1)) (newsKept N1 km))
  have hlt2 := fun p hp => Nat.lt_of_lt_of_le (Heap.lt_size (N1 p hp).1) lm1
  clear F1 N1
  k_steps
  unfold Halt
  rename Fr _ _ _ _ => F1
  rename News _ _ _ _ => N1
  refine append_at (hsz := by decide +kernel) (N1.get (by k_mem)) fun h7 s7 e7 => ?_
  dsimp only
  have nU := N1 (_, W.listOf #[] 0) (by k_mem)
  have F2 := frExt F1 nU.2.2 (Ne.symm nU.2.1) s7.extBut
  have N2 := newsCh (pre := [(x2, instObj 249 dx2), (dx2, fqDict w.params q (Int.fmod (Int.fmod (KFB.value vs) q) q) c1 c2 c3 c4), (_, rangeIt (0 + 1) (((1 - 0 : Int).toNat : Int) - 1))]) N1 e7 s7.extBut ?un
  case un =>
    have l1 := hlt2 _ (List.mem_cons_of_mem _ (List.mem_cons_self ..))
    have l2 := hlt _ (List.mem_cons_self ..)
    intro p hp
    simp only [List.cons_append, List.nil_append, List.mem_cons, List.not_mem_nil, or_false] at hp
    rcases hp with rfl | rfl | rfl | rfl | rfl | rfl
    · exact Nat.ne_of_gt (Nat.lt_trans l1 lm2)
    · exact Nat.ne_of_gt l1
    · exact Ne.symm l2
    · exact news_ne N1 (by k_mem) (by k_mem) (o' := W.listOf #[] 0) (fun q => by cases q)
    · exact news_ne N1 (by k_mem) (by k_mem) (o' := W.listOf #[] 0) (fun q => by injection q with q; revert q; decide)
    · exact Ne.symm hU51
  clear F1 N1
  k_steps
  dsimp only
  simp only [List.cons_append, List.nil_append] at N2
  refine codeA_forTurn ?_
  refine wpAny_pyNext_range_end (s := ⟨_, _, _, _, _⟩) rfl (N2.get (by k_mem)) (by decide) fun h8 e8 => ?_
  have nI := N2 (_, rangeIt (0 + 1) (((1 - 0 : Int).toNat : Int) - 1)) (by k_mem)
  have F3 := frExt F2 nI.2.2 (Ne.symm nI.2.1) e8
  have N3 := newsDrop (pre := [(x2, instObj 249 dx2), (dx2, fqDict w.params q (Int.fmod (Int.fmod (KFB.value vs) q) q) c1 c2 c3 c4)]) N2 e8 ?ui
  case ui =>
    have l1 := hlt2 _ (List.mem_cons_self ..)
    intro p hp
    simp only [List.cons_append, List.nil_append, List.mem_cons, List.not_mem_nil, or_false] at hp
    rcases hp with rfl | rfl | rfl | rfl | rfl | rfl
    · exact Nat.ne_of_gt (Nat.lt_trans l1 lm2)
    · exact Nat.ne_of_gt l1
    · exact hlt (_, W.listOf #[] 0) (List.mem_cons_self ..)
    · exact hlt _ (List.mem_cons_of_mem _ (List.mem_cons_self ..))
    · exact hlt _ (List.mem_cons_of_mem _ (List.mem_cons_of_mem _ (List.mem_cons_self ..)))
    · exact hlt _ (List.mem_cons_of_mem _ (List.mem_cons_of_mem _ (List.mem_cons_of_mem _ (List.mem_cons_self ..))))
  simp only [List.cons_append, List.nil_append] at N3
  clear F2 N2
  refine wpAny_execs_nil ?_
  (try dsimp only)
  k_steps
  unfold Halt
  rename Fr _ _ _ _ => F1
  rename News _ _ _ _ => N1
  refine call_tuple_list (hsz := by show 1 ≤ sizeLine; decide +kernel) ⟨_, N1.get (by k_mem), rfl, _, rfl⟩ fun h9 k9 => ?_
  have kx : Heap.ExtBut 51 s.heap h9 := fun b o hb e => k9 _ _ (by
    by_cases q1 : b = x
    · subst q1; rw [hx] at e; cases e; exact N1.get (by k_mem)
    · by_cases q2 : b = dx
      · subst q2; rw [hdx] at e; cases e; exact N1.get (by k_mem)
      · exact F1.keep _ _ ((Heap.hide_ne _ q2).trans ((Heap.hide_ne _ q1).trans ((Heap.hide_ne _ hb).trans e))))
  have ves : vs = es := by
    rw [hvs, ek, show (64 * (0 * 1) : Int) = ((0 : Nat) : Int) from rfl, show (((0 : Nat) : Int) + 64) = ((64 : Nat) : Int) from rfl, clipAt_nat, clipAt_nat, List.take_of_length_le]
    · simp
    · simp; omega
  have ltL : s.heap.objs.size ≤ L' := by
    have ab := F1.above
    rwa [Heap.hide_size, Heap.hide_size, Heap.hide_size] at ab
  refine hret _ x2 dx2 c1 c2 c3 c4 _ _ _ (fun b o hb e => Heap.get?_push_of_some _ (kx b o hb e)) ?tx (Heap.get?_push_size _ rfl) (Heap.get?_push_of_some _ (k9 _ _ (N1.get (by k_mem)))) (Heap.get?_push_of_some _ (k9 _ _ ?dd)) ?s1 ?s2 (Heap.lt_size (k9 _ _ (N1.get (a := x2) (by k_mem))))
  case tx => exact hO'.tab ((code55 X).keeps fun b o e => Heap.get?_push_of_some _ (k9 _ _ (F1.keep _ _ e))) (Heap.get?_push_of_some _ (k9 _ _ (N1.get (by k_mem))))
  case dd =>
    have e := N1.get (a := dx2) (o := fqDict w.params q (Int.fmod (Int.fmod (KFB.value vs) q) q) c1 c2 c3 c4) (by k_mem)
    rw [ves, ← hes] at e
    exact e
  case s1 => exact Nat.le_trans ltL (Nat.le_trans (Nat.le_of_lt lt1) lm1)
  case s2 => exact lm2
end
example : True := by w_top off; first | walk1 | trivial
section
theorem ceilEq {z d : Int} (d0 : 1 ≤ d) : -(Int.fdiv (-z) d) = Int.fdiv (z + d - 1) d := by
  rw [Int.fdiv_eq_ediv_of_nonneg _ (by omega), Int.fdiv_eq_ediv_of_nonneg _ (by omega)]
  have h1 := Int.mul_ediv_add_emod (-z) d
  have h2 := Int.emod_nonneg (-z) (show d ≠ 0 by omega)
  have h3 := Int.emod_lt_of_pos (-z) (show 0 < d by omega)
  generalize (-z) / d = q at *
  generalize (-z) % d = r at *
  have e : z + d - 1 = d * (-q) + (d - 1 - r) := by rw [Int.mul_neg]; omega
  rw [e, Int.mul_add_ediv_left _ _ (by omega), Int.ediv_eq_zero_of_lt (by omega) (by omega)]
  omega
theorem bigOct1 {x : Int} (h0 : 0 ≤ x) (h1 : x < 256) : bigOct 1 x = [x] := by
  rw [bigOct, KTBy.little_eq]
  show [x / 1 % 256] = [x]
  rw [Int.ediv_one, Int.emod_eq_of_lt h0 h1]
theorem bigOct2 {x : Int} (h0 : 0 ≤ x) (h1 : x < 65536) : bigOct 2 x = [Int.fdiv x 256, Int.fmod x 256] := by
  rw [bigOct, KTBy.little_eq]
  show [x / 256 % 256, x / 1 % 256] = _
  rw [Int.fdiv_eq_ediv_of_nonneg _ (by decide), Int.fmod_eq_emod_of_nonneg _ (by decide), Int.ediv_one]
  congr 1
  omega
theorem roundsL_blks {d : Int} {fs es : List Int} : ∀ (m : Nat) (k : Int) (l : List Int), 0 < k → k + m < 255 → roundsL d fs es m k l = (blksL d fs es m (k + 1) l).flatten
  | 0, _, _, _, _ => rfl
  | m + 1, k, l, h0, h1 => by
    rw [roundsL, blksL, List.flatten_cons, if_pos h0, bigOct1 (by omega) (by omega)]
    congr 1
    exact roundsL_blks m (k + 1) _ (by omega) (by omega)
theorem plain_law {d : Int} {ms ks : List Int} {size block : Int} (z0 : 0 ≤ size) (z1 : size ≤ 3 * d) (d0 : 1 ≤ d) (d1 : d ≤ 72) (n2 : ks.length ≤ 255) :
    (xmdL d ms ks size block (-(Int.fdiv (-size) d) - 1).toNat).take size.toNat = (roundsL d (firstL d ms ks size block) (endL ks) (Int.fdiv (size + d - 1) d).toNat 0 []).take size.toNat := by
  rw [ceilEq d0]
  obtain ⟨r0, r3⟩ := ceil3 z0 z1 d0
  have hz : zeroL d ms ks size block = firstL d ms ks size block := by
    rw [zeroL, firstL, primeL, bigOct1 (by omega) (by omega), bigOct2 z0 (by omega)]
    simp
  have hp : primeL ks = endL ks := by rw [primeL, endL, bigOct1 (by omega) (by omega)]
  by_cases hr : 0 < Int.fdiv (size + d - 1) d
  · obtain ⟨m, hm⟩ : ∃ m : Nat, Int.fdiv (size + d - 1) d = (m : Int) + 1 := ⟨(Int.fdiv (size + d - 1) d - 1).toNat, by omega⟩
    rw [hm] at r3 ⊢
    rw [show ((m : Int) + 1 - 1).toNat = m by omega, show ((m : Int) + 1).toNat = m + 1 by omega]
    congr 1
    rw [xmdL, roundsL, oneL, hz, hp, if_neg (by decide)]
    congr 1
    exact (roundsL_blks m 1 _ (by decide) (by omega)).symm
  · have hs : size = 0 := by
      by_cases hs : size = 0
      · exact hs
      · exfalso
        refine hr ?_
        rw [Int.fdiv_eq_ediv_of_nonneg _ (by omega)]
        exact Int.lt_of_lt_of_le (by decide : (0 : Int) < 1) (Int.le_ediv_of_mul_le (by omega) (by omega))
    subst hs
    simp
end
end
example : True := by w_top off; first | walk1 | trivial
section
theorem ceil32 {len : Int} (l0 : 0 ≤ len) (l1 : len ≤ 40) : 0 ≤ -(Int.fdiv (-len) 32) ∧ -(Int.fdiv (-len) 32) ≤ 2 ∧ (0 < -(Int.fdiv (-len) 32) → 0 < len) := by
  rw [Int.fdiv_eq_ediv_of_nonneg _ (by decide : (0 : Int) ≤ 32)]
  omega
theorem mE_0 {b1 b2 : Array UInt8} {t1 t2 t3 tn : Tok} {len n : Int} {ap ao : Addr} {l : List (Str × Value)} (hl : l = [(Str.ofString "hmac", Value.ref 433), (Str.ofString "length", .int len t3), (Str.ofString "info", .bytes b2 t2), (Str.ofString "prk", .bytes b1 t1)]) :
    (fun y => if y = Str.ofString "previous" then some (Value.ref ap) else if y = Str.ofString "okm" then some (.ref ao) else if y = Str.ofString "n" then some (.int n tn) else List.lookup y l) = mE b1 b2 t1 t2 t3 tn len n none ap ao none := by
  funext y
  subst hl
  by_cases e1 : y = Str.ofString "i"
  · subst e1; rfl
  by_cases e2 : y = Str.ofString "text"
  · subst e2; rfl
  simp only [mE, if_neg e1, if_neg e2, lookup_if, List.lookup_nil]
theorem codeC_push {M : Model} {A : Around} {s : Shared} {h : Heap} {c : Code} {tk : Nat} {o : Obj} {R : Result → Shared → Prop} (hf : o.isFreed = false)
    (go : ∀ h', Kept h h' → h'.get? h.objs.size = some o → h'.objs.size = h.objs.size + 1 → codeC M A c R { s with heap := h', toks := tk }) : codeC M A c R { s with heap := h.push o, toks := tk } :=
  pushGo (P := fun h' => codeC M A c R { s with heap := h', toks := tk }) go hf
local macro_rules | `(tactic| walk_at "subscriptTail") => `(tactic| (k_here; (with_reducible show wpAny _ _ (subscriptTail _ _ (Value.ref _) (Value.ref _)) _ _ _); refine halt ?_))
set_option maxHeartbeats 800000 in
theorem hkdfE_spec {b1 b2 : Array UInt8} {ks ls : List Int} {t1 t2 t3 : Tok} {len : Int} {ps : Array Value} {c' : Addr} {o2 : Obj} {vs : Array Value} {tv : Tok}
    (X : (K w.params).In (s.heap.hide 421)) (T : Top p loose mean mg mb (s.heap.hide 421)) (ho : s.heap.get? 421 = some (tabObj ps)) (hit : 0 < len → ps = triple c' ∧ s.heap.get? c' = some o2 ∧ c' ≠ 421 ∧ o2.data = .fields vs ∧ vs[1]? = some (.str qualH tv))
    (h1 : KBw.bInts b1 = ks) (h2 : KBw.bInts b2 = ls) (n1 : ks.length ≤ 30) (n2 : ls.length ≤ 30) (l0 : 0 ≤ len) (l1 : len ≤ 40) (hd : dp + 4 < recursionLimit)
    (hret : ∀ (a : Addr) (b : Array UInt8) (h' : Heap) (tk' : Nat), Kept s.heap h' → h'.get? a = some (baObj b) → KBw.bInts b = (turnsL ks ls (-(Int.fdiv (-len) 32)).toNat 0 []).take len.toNat → Q (.ref a) { s with heap := h', toks := tk' }) :
    wpC (model PySem.Challenge.pw_lh0033_01 w) (Ar dp un (some []) outer) (call (.ref 35) [.bytes b1 t1, .bytes b2 t2, .int len t3, .ref 433]) Q E s := by
  have hold : 421 < s.heap.objs.size := Heap.lt_size ho
  have N0 : ∀ p ∈ [((421 : Addr), tabObj ps)], s.heap.get? p.1 = some p.2 ∧ (s.heap.hide 421).get? p.1 = none := fun p hp => by
    rcases List.mem_singleton.mp hp with rfl
    exact ⟨ho, Heap.hide_self _ _⟩
  (refine wpC_call ?_; k_dflt (refine' enterD (g := Heap.hide _ 421) ?g1 ?g2 ?k3 ?k5 ?kN ?k6 ?k7 ?k8 ?k9 ?kB ?_ ?c2 ?c3 ?c4 ?c5; (case g1 => exact keptHide _ _); (case g2 => exact Heap.hide_size _ _); (case k3 => k_asm); (case k5 => k_asm); (case kN => assumption); (case k6 => k_is); (case k7 => k_is); (case k8 => first | ktr_room | (dsimp only [Ar]; omega)); (case k9 => exact BindsTo.of_eq rfl); (case c5 => decide); (case kB => exact locs rfl); (case c2 => exact rfl); (case c3 => exact rfl); (case c4 => exact rfl); k_whole; intro L' h' tk' F' N'; (try dsimp only); (try k_fold)))
  refine wpC_step ?_
  k_steps
  refine wpC_execs_cons (wpC_Assign_Name (wpC_Call_Name ?_))
  k_steps
  refine wpC_callWith_type1 (wpC_of ?_)
  k_steps
  rename Fr _ _ _ _ => F1
  rename News _ _ _ _ => N1
  refine ba_make_zero rfl fun g2 hk2 hs2 hb2 => ?_
  dsimp only at hk2 hs2 hb2
  have F2 := frKept F1 hk2
  have N2 := newsTop F1 N1 hk2 hb2
  dsimp only at F2 N2
  clear F1 N1
  k_steps
  dsimp only
  refine wpC_execs_cons (wpC_Assign_Name (wpC_Call_Name ?_))
  k_steps
  refine wpC_callWith_type1 (wpC_of ?_)
  k_steps
  rename Fr _ _ _ _ => F1
  rename News _ _ _ _ => N1
  refine ba_make_zero rfl fun g3 hk3 hs3 hb3 => ?_
  dsimp only at hk3 hs3 hb3
  have F2 := frKept F1 hk3
  have N2 := newsTop F1 N1 hk3 hb3
  dsimp only at F2 N2
  clear F1 N1
  k_steps
  dsimp only
  refine wpC_execs_cons (wpC_For ?_)
  k_steps
  rename IsRange _ _ _ _ _ _ _ _ => R1
  have hc32 := ceil32 l0 l1
  refine wpAny_pyIter_range R1 (small_one (by decide) (by decide) (by omega) (by omega)) ?_
  rw [rangeSize_nat, Int.sub_zero]
  obtain ⟨n0, n2', npos⟩ := hc32
  generalize -(Int.fdiv (-len) 32) = n at *
  rename Fr _ _ _ _ => F2
  rename News _ _ _ _ => N2
  refine codeC_push (s := s) rfl fun g4 hk4 ht4 hs4 => ?_
  have F3 := frKept F2 hk4
  have N3 := newsTop F2 N2 hk4 ht4
  clear F2 N2
  dsimp only at F3 N3
  refine hkdf_loop (c' := c') (o2 := o2) (vs := vs) (tv := tv) (s := s) n.toNat (frEq F3 (mE_0 (by rfl))) (by exact N3) X T ?hit h1 h2 n1 n2 (by decide) (by decide) (by decide) (by omega) hd ?_
  case hit =>
    intro hm
    obtain ⟨e1, e2, e3, e4, e5⟩ := hit (npos (by omega))
    exact ⟨e1, (Heap.hide_ne _ e3).trans e2, e3, e4, e5⟩
  intro h5 tk5 iv5 ap5 tx5 x5 F5 N5 hx5 hs5
  dsimp only
  refine wpC_execs_cons (wpC_Return (wpC_of ?_))
  k_steps
  unfold Halt
  have hxs : x5.size ≤ 64 := by
    have : (#[] : Array UInt8).size = 0 := rfl
    omega
  refine ba_sliceTail (s := ⟨_, _, _, _, _⟩) rfl (N5.get (by k_mem)) (by omega) ?_
  (try dsimp only)
  k_steps
  (try dsimp only)
  all_goals first | exact True.intro | skip
  refine hret _ _ _ _ (keptPush (keptPush (keptWhole F5.keep (N5.get (by k_mem)) ho))) (Heap.get?_push_size _ rfl) ?_
  rw [KBc.ints_picked rfl, hx5]
  simp only [Option.elim, List.drop_zero, Nat.sub_zero]
  exact take_clip l0
end
example : True := by w_top off; first | walk1 | trivial
section
theorem enterCellLe {prog : Program} {A : Around} {g : Heap} {Kf : Frag} {R : Result → Shared → Prop} {name qual : Str} {params : Arguments} {body : List Stmt} {scope : Scope} {dV kV doc pm cdv ct oc : Value} {an od : Option Addr} {osl : Array (Option Value)} {f : Addr} {args : Args} {binds : List (Str × Value)} {news : List (Addr × Obj)} {x : Str} {v : Value} {m0 : Str → Option Value}
    (hg : Kept g s.heap) (hsz : g.objs.size ≤ s.heap.objs.size) (X : Kf.In g) (T : Top p loose mean mg mb g)
    (N : ∀ p ∈ news, s.heap.get? p.1 = some p.2 ∧ g.get? p.1 = none)
    (ho : Kf.lookup f = some ⟨oc, od, .func (fnOf name qual params body scope dV kV doc pm an cdv ct), osl⟩) (hcd : codeIn Kf cdv qual = true) (hroom : A.depth < recursionLimit)
    (hbind : BindsTo s (fnOf name qual params body scope dV kV doc pm an cdv ct) args binds)
    (hkind : ∀ y ∈ binds, scope.names.lookup y.1 = some .local ∨ (scope.names.lookup y.1 = some .cell ∧ y.1 = x)) (hcf : ∀ n, cellsFrom n scope.names [] = [(x, n)])
    (hv : bindC (fun y => scope.names.lookup y) binds (fun _ => none) x = some v) (hm : bindL (fun y => scope.names.lookup y) binds (fun _ => none) = m0)
    (h : ∀ L' c h₁ o tk, o.data = .cell (some v) → Fr g L' h₁ m0 → News g L' h₁ ((c, o) :: news) → L' < c → s.heap.objs.size ≤ L' →
      wpAny (model prog w) (A.deeper (envX qual scope L' f cdv [(x, c)])) (execs body (envX qual scope L' f cdv [(x, c)]))
        (fun fl s' => R (.ok (.ret (match fl with | .ret v => v | _ => .none))) s')
        (fun e s' => wpAny (model prog w) (A.deeper (envX qual scope L' f cdv [(x, c)])) (leaving (envX qual scope L' f cdv [(x, c)]) e) (fun _ s'' => R (.error e) s'') (fun e' s'' => R (.error e') s'') s')
        { s with heap := h₁, toks := tk })
    (hco : scope.isCoroutine = false) (hgen : scope.isGenerator = false) (hk : scope.kind = .function) : codeAny (model prog w) A (.call (.ref f) args) R s := by
  refine codeAny_call_function (fd := fnOf name qual params body scope dV kV doc pm an cdv ct) hroom (hg _ _ (X _ _ ho)) rfl hco hgen rfl (codeRec_of (X.keeps hg) hcd) (hbind _ _ _ _ ?_)
  refine wpAny_newFunctionEnv_cells hk (fun y hy => ?_) fun env' he s' y => ?_
  · rcases hkind y hy with q | ⟨q, rfl⟩
    · exact .inl q
    · exact .inr ⟨q, by rw [hcf]; simp⟩
  · subst he
    refine ⟨(T.nolimit.keeps hg).keeps y.toInCall.keep, codeAny_func ?_⟩
    obtain ⟨h₁, tk, rfl, _⟩ := y.done
    have hk₁ := y.toInCall.keep
    have hcells : (newEnv scope s.heap.objs.size mainGlobals (cellsFrom (s.heap.objs.size + 1) scope.names []) (qual ++ ".<locals>.") (some f) cdv none builtinsNs).cells = [(x, s.heap.objs.size + 1)] := hcf _
    have hc0 := y.cell x (s.heap.objs.size + 1) (by rw [hcells]; simp)
    have hns := y.toInCall.ns
    obtain ⟨o, ho', hd'⟩ := hc0
    have e : envX qual scope s.heap.objs.size f cdv [(x, s.heap.objs.size + 1)] = newEnv scope s.heap.objs.size mainGlobals (cellsFrom (s.heap.objs.size + 1) scope.names []) (qual ++ ".<locals>.") (some f) cdv none builtinsNs := by
      rw [hcf]; rfl
    refine e ▸ h s.heap.objs.size (s.heap.objs.size + 1) h₁ o tk (by rw [hd']; congr 1) ⟨by rw [← hm]; exact hns, fun b o e => hk₁ b o (hg b o e), hsz⟩ (fun q hq => ?_) (Nat.lt_succ_self _) (Nat.le_refl _)
    rcases List.mem_cons.mp hq with rfl | hq
    · exact ⟨ho', Nat.succ_ne_self _, noneOf (Nat.le_succ_of_le hsz)⟩
    · exact ⟨hk₁ _ _ (N q hq).1, Nat.ne_of_lt (Heap.lt_size (N q hq).1), (N q hq).2⟩
end
example : True := by w_top off; first | walk1 | trivial
section
local macro_rules | `(tactic| walk_at "eval GeneratorExp") => `(tactic| (k_here; refine halt ?_))
local macro_rules | `(tactic| walk_at "eval ListComp") => `(tactic| (k_here; (with_reducible show wpAny _ _ (eval (Expr.ListComp _ [⟨Expr.Tuple _ _ _, _, _, _⟩] _ _) _) _ _ _); refine halt ?_))
local macro_rules | `(tactic| walk_at "call type:enumerate") => `(tactic| (k_here; refine halt ?_))
local macro_rules | `(tactic| walk_at "pyIter ref") => `(tactic| (k_here; refine halt ?_))
local macro_rules | `(tactic| walk_at "call type:tuple") => `(tactic| (k_here; refine halt ?_))
theorem get_fm {A : Around} {x dx : Addr} {es : List DictEntry} {n : Nat} {v : Value} {expr : Bool} {Q : Value → Shared → Prop} (X : (K w.params).In s.heap) (hx : s.heap.get? x = some (instObj 403 dx)) (hdx : s.heap.get? dx = some (dictOf es n))
    (hl : getL (Str.ofString "field_modulus") es = some (some v)) (hv : handedIn v = true) (h : Q v { s with toks := s.toks + 1 }) : wpAny (model PySem.Challenge.pw_lh0033_01 w) A (getAttr (.ref x) (Str.ofString "field_modulus") expr) Q E s := by
  have hg : plainGet (K w.params) 403 (Str.ofString "field_modulus") = true := by k_is
  have hd : hasDictIn (K w.params) 403 = true := by k_is
  refine' get_value X ⟨hx, rfl, rfl, hdx⟩ (plainGet_of hg).1 (findObj_own (od := dictOf es n) hd ?ha ?hn hl) hv h
  case ha => k_is
  case hn => k_is
theorem accTwo {acc : Array Value} {a b q : Int} (h : ItemsOf (fun j y => ∃ i, (List.range 2)[j]? = some i ∧ ∃ t, y = Value.int (Int.fmod (([a, b] : List Int).getD i 0) q) t) acc 2) : ∃ ta tb, acc = #[.int (Int.fmod a q) ta, .int (Int.fmod b q) tb] := by
  obtain ⟨hs, hi⟩ := h
  obtain ⟨l⟩ := acc
  rcases l with _ | ⟨x, _ | ⟨y, _ | ⟨z, r⟩⟩⟩
  · simp at hs
  · simp at hs
  · obtain ⟨i, e1, t1, h1⟩ := hi 0 x rfl
    obtain ⟨j, e2, t2, h2⟩ := hi 1 y rfl
    cases e1
    cases e2
    exact ⟨t1, t2, by rw [h1, h2]; rfl⟩
  · simp at hs
theorem newsLast {g h h' : Heap} {L P : Addr} {o o' : Obj} {pre : List (Addr × Obj)} (N : News g L h (pre ++ [(P, o)])) (he : h'.get? P = some o') (k : ∀ b o, h.get? b = some o → b ≠ P → h'.get? b = some o) (hn : ∀ p ∈ pre, p.1 ≠ P) : News g L h' (pre ++ [(P, o')]) := by
  intro p hp
  rcases List.mem_append.mp hp with q | q
  · have m := N p (List.mem_append_left _ q)
    exact ⟨k _ _ m.1 (hn p q), m.2⟩
  · rcases List.mem_singleton.mp q with rfl
    exact ⟨he, (N (P, o) (List.mem_append_right _ (List.mem_singleton.mpr rfl))).2⟩
theorem tab_neP {g h : Heap} {L a P : Addr} {o oP : Obj} {news : List (Addr × Obj)} (N : News g L h news) (ha : (a, o) ∈ news) (hb : (P, oP) ∈ news) (hO : TabO oP) (hd : ∀ vs, o.data ≠ .fields vs) : a ≠ P := by
  intro e
  have q1 := N.get ha
  have q2 := N.get hb
  rw [e, q2] at q1
  cases q1
  obtain ⟨_, q, _⟩ := hO
  exact hd _ (by rw [q])
noncomputable abbrev tupObj (vs : Array Value) : Obj := { cls := .type "tuple", data := .seq vs }
noncomputable abbrev fq2Dict (P : Params) (q : Int) (D TU mo : Addr) (a1 a2 a3 a4 a5 a6 a7 : Tok) : Obj := dictOf [⟨PyData.keyHash P (Str.ofString "field_modulus"), .str (Str.ofString "field_modulus") a1, .int q a2⟩, ⟨PyData.keyHash P (Str.ofString "mc_tuples"), .str (Str.ofString "mc_tuples") a3, .ref D⟩,
  ⟨PyData.keyHash P (Str.ofString "coeffs"), .str (Str.ofString "coeffs") a4, .ref TU⟩, ⟨PyData.keyHash P (Str.ofString "modulus_coeffs"), .str (Str.ofString "modulus_coeffs") a5, .ref mo⟩, ⟨PyData.keyHash P (Str.ofString "degree"), .str (Str.ofString "degree") a6, .int 2 a7⟩] 5
set_option maxHeartbeats 800000 in
theorem fq2_new {l mo : Addr} {nl : Nat} {a b q : Int} {u1 u2 u3 u4 t3 : Tok} (hq : 1 ≤ q) (hl : s.heap.get? l = some (W.listOf #[.int a u1, .int b u2] nl)) (hmo : s.heap.get? mo = some (tupObj #[.int 1 u3, .int 0 u4])) (hT : TabX 264 262 s.heap)
    (X : (K w.params).In (hideAll s.heap [l, mo, 262])) (T : Top p loose mean mg mb (hideAll s.heap [l, mo, 262])) (hd : dp + 8 < recursionLimit) (hu : un + 120 < cLine)
    (hret : ∀ (x dx TU D : Addr) (a1 a2 a3 a4 a5 a6 a7 ta tb : Tok) (h' : Heap) (tk' : Nat) (g' : GensOf s.gens), Heap.ExtBut 262 s.heap h' → TabX 264 262 h' → h'.get? x = some (instObj 403 dx) → h'.get? dx = some (fq2Dict w.params q D TU mo a1 a2 a3 a4 a5 a6 a7) →
      h'.get? TU = some (tupObj #[.int (Int.fmod a q) ta, .int (Int.fmod b q) tb]) → s.heap.objs.size ≤ dx → dx < x → s.heap.objs.size ≤ TU → Q (.ref x) ⟨h', g'.1, s.drawn, tk', s.os⟩) :
    wpAny (model PySem.Challenge.pw_lh0033_01 w) (Ar dp un gd outer) (call (.ref 403) [.ref l, .ref mo, .int q t3]) Q E s := by
  obtain ⟨o262, ho262, hO⟩ := hT.obj
  obtain ⟨hh, gs, dr, tk, os⟩ := s
  dsimp only at X T hl hmo ho262
  have K0 : Kept (hideAll hh [l, mo, 262]) hh := fun b o e => of_hideAll _ e
  have X0 := X.keeps K0
  have hfn : isFn (K w.params) (.ref 265) = true := by k_is
  refine wpAny_call ?_
  refine make_core (makes_of X0 (by k_is)) (looks_findIn X0 (by k_is)) (fun self => bind_fn X0 self (beq_iff_eq.mp hfn)) (.inl rfl) ?_
  generalize hh2 : (hh.push emptyDict).push (instObj 403 hh.objs.size) = h2 at *
  have K2' : Kept hh h2 := fun b o e => by rw [← hh2]; exact Heap.get?_push_of_some _ (Heap.get?_push_of_some _ e)
  have hs2 : hh.objs.size ≤ h2.objs.size := by rw [← hh2, Heap.size_push, Heap.size_push]; omega
  have hs3 : h2.objs.size = hh.objs.size + 2 := by rw [← hh2, Heap.size_push, Heap.size_push]
  have llt : @LT.lt Nat instLTNat l hh.objs.size := Heap.lt_size hl
  have mlt : @LT.lt Nat instLTNat mo hh.objs.size := Heap.lt_size hmo
  have tlt : @LT.lt Nat instLTNat 262 hh.objs.size := Heap.lt_size ho262
  have N0 : ∀ p ∈ [(hh.objs.size + 1, instObj 403 hh.objs.size), (hh.objs.size, dictOf [] 0), (l, W.listOf #[.int a u1, .int b u2] nl), (mo, tupObj #[.int 1 u3, .int 0 u4]), (262, o262)], h2.get? p.1 = some p.2 ∧ (hideAll hh [l, mo, 262]).get? p.1 = none := by
    intro p hp
    simp only [List.mem_cons, List.not_mem_nil, or_false] at hp
    rcases hp with rfl | rfl | rfl | rfl | rfl
    · refine ⟨?_, noneOf (by rw [hideAll_size]; exact Nat.le_succ _)⟩
      have e := Heap.get?_push_size (hh.push emptyDict) (show (instObj 403 hh.objs.size).isFreed = false from rfl)
      rw [← hh2]
      rwa [Heap.size_push] at e
    · refine ⟨?_, noneOf (by rw [hideAll_size]; exact Nat.le_refl _)⟩
      rw [← hh2]
      exact Heap.get?_push_of_some _ (Heap.get?_push_size _ rfl)
    · exact ⟨K2' _ _ hl, hideAll_none _ (by simp)⟩
    · exact ⟨K2' _ _ hmo, hideAll_none _ (by simp)⟩
    · exact ⟨K2' _ _ ho262, hideAll_none _ (by simp)⟩
  refine' enterCellLe (x := Str.ofString "self") (binds := [(Str.ofString "self", .ref (hh.objs.size + 1)), (Str.ofString "coeffs", .ref l), (Str.ofString "modulus_coeffs", .ref mo), (Str.ofString "field_modulus", .int q t3)]) (g := hideAll hh [l, mo, 262]) (s := ⟨h2, gs, dr, tk, os⟩) (fun b o e => K2' _ _ (K0 _ _ e)) (by rw [hideAll_size]; exact hs2) X T N0 ?k6 ?k7 ?k8 ?k9 ?kB ?kC ?kV ?kM ?_ ?c2 ?c3 ?c4
  case k6 => k_is
  case k7 => k_is
  case k8 => first | ktr_room | (dsimp only [Ar, Around.under]; omega)
  case k9 => exact BindsTo.of_eq rfl
  case kB =>
    intro y hy
    simp only [List.mem_cons, List.not_mem_nil, or_false] at hy
    rcases hy with rfl | rfl | rfl | rfl
    · exact .inr ⟨rfl, rfl⟩
    · exact .inl rfl
    · exact .inl rfl
    · exact .inl rfl
  case kC => exact fun _ => rfl
  case kV => rfl
  case kM => rfl
  case c2 => exact rfl
  case c3 => exact rfl
  case c4 => exact rfl
  intro L' c0 h' o0 tk0 hc0 F' N' l0 l1
  (try dsimp only)
  (try k_fold)
  have l0n : @LT.lt Nat instLTNat L' c0 := l0
  have l1n : @LE.le Nat instLENat h2.objs.size L' := l1
  clear l0 l1
  k_steps
  unfold Halt
  refine ListComp_U1 rfl (by decide) (by decide) (by decide) rfl (by decide) rfl rfl ?_ (by intro _; rfl)
  k_steps
  unfold Halt
  rename Fr _ _ _ _ => F1
  rename News _ _ _ _ => N1
  refine call_enumT (N1.get (by k_mem)) fun h3 e1 e2 k3 => ?_
  have mlt3 : mo < _ := Heap.lt_size (N1.get (a := mo) (by k_mem))
  refine ⟨_, _, _, _, _, _, _, rfl, walksEnumT rfl _ _ mo ?ei ?le ?li #[.int 1 u3, .int 0 u4], ?sz, ⟨⟨_, e1⟩, e2, ⟨_, k3 _ _ (N1.get (by k_mem)), rfl, _, rfl⟩⟩, ?fp, by show 2 ≤ sizeLine; decide +kernel, ?tst, ?elt, ?go⟩
  case ei => exact Nat.succ_ne_self _
  case le => exact Nat.ne_of_lt (Nat.lt_succ_of_lt mlt3)
  case li => exact Nat.ne_of_lt mlt3
  case sz =>
    rintro i vals ⟨t, x, _, rfl⟩
    exact ⟨_, _, rfl⟩
  case fp =>
    intro b hb
    simp only [List.mem_cons, List.not_mem_nil, or_false] at hb
    rcases hb with q | q | q
    · rw [q]; exact Heap.lt_size e1
    · rw [q]; obtain ⟨_, e, _⟩ := e2; exact Heap.lt_size e
    · rw [q]; exact Heap.lt_size (k3 _ _ (N1.get (a := mo) (by k_mem)))
  case tst =>
    rintro C i va vb s₃ m₃ E' ⟨t, x, hx, hv⟩ hn ha hb
    have eb : vb = x := by injection hv with e; injection e with _ e; injection e
    subst eb
    have hi : ∃ n t, vb = .int n t := by
      rcases i with _ | _ | i
      · exact ⟨1, u3, (Option.some.inj hx).symm⟩
      · exact ⟨0, u4, (Option.some.inj hx).symm⟩
      · simp at hx
    obtain ⟨n', t', rfl⟩ := hi
    refine wpAny_isTrue_value (wpAny_Name (wpAny_loadName_local rfl rfl hn hb (P.truthy_int ?_)))
    exact ⟨_, _, rfl, fun _ _ e => e⟩
  case elt =>
    rintro C i va vb s₃ m₃ E' _ hn ha hb
    refine PyProof.Rows.Tuple_ (spliced_more (wpAny_Name (wpAny_loadName_local rfl rfl hn ha (spliced_more (wpAny_Name (wpAny_loadName_local rfl rfl hn hb (spliced_none ?_)))))))
    refine wpAny_newTuple (hsz := by show 2 ≤ sizeLine; decide +kernel) ?_
    exact ⟨_, _, rfl, fun b o e => Heap.get?_push_of_some _ e⟩
  case go =>
    intro D h4 tk4 ys hD hl4 k4
    obtain ⟨nD, eD⟩ := hl4
    have kk : Kept _ h4 := fun b o e => k4 b o (fun hm => by
      have lb := Heap.lt_size e
      simp only [List.mem_cons, List.not_mem_nil, or_false] at hm
      rcases hm with q | q
      · rw [q] at lb; exact Nat.lt_irrefl _ (Nat.lt_of_succ_lt lb)
      · rw [q] at lb; exact Nat.lt_irrefl _ lb) (k3 _ _ e)
    have lD : @LT.lt Nat instLTNat _ D := Nat.lt_of_lt_of_le (Heap.lt_size e1) hD
    have F2 := frKept F1 kk
    have lL : @LT.lt Nat instLTNat L' D := Nat.lt_trans (Nat.lt_trans F1.ns.lt (Nat.lt_succ_self _)) lD
    have N2 := newsCons eD lL (Nat.le_trans F1.above (Nat.le_trans (Nat.le_of_lt F1.ns.lt) (Nat.le_of_lt (Nat.lt_of_succ_lt lD)))) (newsKept N1 kk)
    have lc0 : @LT.lt Nat instLTNat c0 D := Nat.lt_trans (Heap.lt_size (N1.get (a := c0) (by k_mem))) (Nat.lt_of_succ_lt lD)
    clear F1 N1
    (try dsimp only at F2 N2)
    k_steps
    unfold Halt
    rename Fr _ _ _ _ => F1
    rename News _ _ _ _ => N1
    refine wpAny_GeneratorExp_walksQ (cl := [(Str.ofString "self", c0)]) rfl rfl rfl (by decide) rfl rfl rfl (by first | ktr_room | (dsimp only [Ar, Around.under]; omega)) ?_ (by intro _; rfl)
    k_steps
    unfold Halt
    rename Heap => h5
    refine wpAny_pyIter_list (s := ⟨_, _, _, _, _⟩) ⟨_, N1.get (a := l) (by k_mem), rfl, _, rfl⟩ ?_
    have lst1 := N1.get (a := l) (by k_mem)
    have cel1 := N1.get (a := c0) (by k_mem)
    have ins1 := N1.get (a := hh.objs.size + 1) (by k_mem)
    have dic1 := N1.get (a := hh.objs.size) (by k_mem)
    have tab1 := N1.get (a := 262) (by k_mem)
    have lt1 : l < h5.objs.size := Heap.lt_size lst1
    have litI : (h5.push { cls := .type "list_iterator", data := .fields #[.ref l, .int 0 0] }).get? h5.objs.size = some { cls := .type "list_iterator", data := .fields #[.ref l, .int 0 0] } := Heap.get?_push_size _ rfl
    have kI : Kept h5 (h5.push { cls := .type "list_iterator", data := .fields #[.ref l, .int 0 0] }) := fun b o e => Heap.get?_push_of_some _ e
    have szI : (h5.push { cls := .type "list_iterator", data := .fields #[.ref l, .int 0 0] }).objs.size = h5.objs.size + 1 := Heap.size_push _ _
    dsimp only
    generalize hgI : h5.push { cls := .type "list_iterator", data := .fields #[.ref l, .int 0 0] } = hI at litI kI szI ⊢
    refine ⟨T.nolimit.keeps fun b o e => kI _ _ (F1.keep _ _ e), ?_⟩
    refine genCode (c := 264) (P := 262) rfl ((hO.tab ((code264 X).keeps F1.keep) tab1).choose_spec.1.keeps kI) ((code264 X).keeps fun b o e => kI _ _ (F1.keep _ _ e)) (kI _ _ (hO.tab ((code264 X).keeps F1.keep) tab1).choose_spec.2) fun code h6 tk6 ps6 hx6 hok6 htb6 => ?_
    obtain ⟨bm, ob, M⟩ := bmod_of_top T
    have n262 : (hideAll hh [l, mo, 262]).get? 262 = none := hideAll_none _ (by simp)
    have k6 : Kept (hideAll hh [l, mo, 262]) h6 := fun b o e => hx6 b o (fun z => by rw [z, n262] at e; cases e) (kI _ _ (F1.keep _ _ e))
    have M6 := M.keeps k6
    refine wpAny_builtinsFor M6.ns M6.name M6.ne M6.obj M6.cls M6.dict M6.data ?_
    have ne262 : ∀ b o, hI.get? b = some o → (∀ ps, o.data ≠ .fields ps) → h6.get? b = some o := fun b o e hn => hx6 b o (fun z => by
      rw [z] at e
      rw [kI _ _ tab1] at e
      cases e
      obtain ⟨ps, hp, _⟩ := hO
      exact hn ps (by rw [hp])) e
    have nI : h5.objs.size ≠ 262 := Nat.ne_of_gt (Heap.lt_size tab1)
    have lit6 := hx6 _ _ nI litI
    have lst6 := ne262 _ _ (kI _ _ lst1) (fun _ z => by cases z)
    have cel6 := ne262 _ _ (kI _ _ cel1) (fun _ z => by rw [hc0] at z; cases z)
    have ins6 := ne262 _ _ (kI _ _ ins1) (fun _ z => by cases z)
    have dic6 := ne262 _ _ (kI _ _ dic1) (fun _ z => by cases z)
    have baseLt : ∀ b o, (hideAll hh [l, mo, 262]).get? b = some o → b < h5.objs.size := fun b o e => Heap.lt_size (F1.keep _ _ e)
    refine ⟨h5.objs.size, [h5.objs.size, l], [h5.objs.size], 2, _, _, fun _ => true, fun i y => ∃ t, y = .int (Int.fmod (([a, b] : List Int).getD i 0) q) t, rfl, fun A' hA => Walks.list hA _ l (Nat.ne_of_lt lt1) #[.int a u1, .int b u2], ⟨⟨_, lit6, rfl, rfl⟩, ⟨_, lst6, rfl, _, rfl⟩⟩, ?fp2, T.nolimit.keeps k6, ?cs, fun href hk7 => ⟨?ts2, ?el2⟩, ?fin⟩
    case fp2 =>
      intro z hz
      simp only [List.mem_cons, List.not_mem_nil, or_false] at hz
      rcases hz with w1 | w1
      · rw [w1]; exact Heap.lt_size lit6
      · rw [w1]; exact Heap.lt_size lst6
    case cs =>
      intro hm
      rw [List.mem_singleton] at hm
      obtain ⟨_, hn, _⟩ := T.nolimit
      have z := hn.lt
      rw [hideAll_size] at z
      rw [hm] at z
      exact Nat.lt_irrefl _ (Nat.lt_trans z (Heap.lt_size dic1))
    case ts2 =>
      intro A' E' i v s₂ m₂ _ _ _ _ _
      exact wpAny_pure ⟨rfl, s₂.heap, s₂.toks, rfl, fun _ _ e => e⟩
    case el2 =>
      intro A' E' i v s₂ m₂ _ hP _ hn hv hk8
      obtain ⟨tv, rfl⟩ : ∃ tv, v = .int (([a, b] : List Int).getD i 0) tv := by
        rcases i with _ | _ | i
        · exact ⟨u1, (Option.some.inj hP).symm⟩
        · exact ⟨u2, (Option.some.inj hP).symm⟩
        · simp at hP
      have K8 : ∀ b o, b < h5.objs.size → h6.get? b = some o → s₂.heap.get? b = some o := fun b o hb e => hk8 b (List.mem_range.mpr (Heap.lt_size e)) (fun z => Nat.ne_of_lt hb (List.mem_singleton.mp z)) o (hk7 _ _ e)
      have X8 := X.keeps fun b o e => K8 b o (baseLt b o e) (k6 _ _ e)
      refine wpAny_BinOp (wpAny_Name (wpAny_loadName_local rfl rfl hn hv ?_))
      refine Attribute_Name_ (wpAny_Name (wpAny_loadName_free rfl rfl rfl ⟨o0, K8 _ _ (Heap.lt_size cel1) cel6, hc0⟩ ?_))
      refine get_fm X8 (K8 _ _ (Heap.lt_size ins1) ins6) (K8 _ _ (Heap.lt_size dic1) dic6) rfl rfl ?_
      refine PyProof.Rows.mod_int (by omega) ⟨⟨_, rfl⟩, _, _, rfl, fun _ _ e => e⟩
    case fin =>
      intro a7 h7 tk7 gs7 hb7 lt7 sz7 k7 W7 st7
      k_steps
      unfold Halt
      have ep : passing (fun _ => true) 2 0 = List.range 2 := by decide
      rw [ep, List.length_range] at W7
      obtain ⟨oG, nm, qn, eG, _, eD2, _⟩ := st7.1
      dsimp only at lt7 sz7 k7 eG
      refine call_tuple_gen (hsz := by decide +kernel) (WalksS.in4_3 W7) (fun i s' st => st.1.typeIs) st7 ?fp3 (List.mem_cons_self ..) fun s8 acc hm8 hacc => ?_
      case fp3 =>
        intro z hz
        show z < h7.objs.size
        rw [sz7]
        rcases List.mem_cons.mp hz with w1 | hz
        · rw [w1]; exact Nat.lt_succ_self _
        · rcases List.mem_cons.mp hz with w1 | hz
          · rw [w1]; exact Nat.lt_succ_of_lt lt7
          · exact Nat.lt_succ_of_lt (Nat.lt_trans (List.mem_range.mp hz) lt7)
      obtain ⟨ta, tb, rfl⟩ : ∃ ta tb, acc = #[.int (Int.fmod a q) ta, .int (Int.fmod b q) tb] := accTwo hacc
      obtain ⟨h8, g8, dr8, tk8, os8⟩ := s8
      have q1 := hm8.drawn
      have q2 := hm8.os
      dsimp only at q1 q2
      subst q1 q2
      have K8 : ∀ b o, b < h5.objs.size → h6.get? b = some o → h8.get? b = some o := fun b o hb e => hm8.heap b o (fun z => by
        rcases List.mem_cons.mp z with w1 | w1
        · rw [w1] at hb; exact Nat.lt_irrefl _ (Nat.lt_trans hb (Heap.lt_size lit6))
        · rw [List.mem_singleton.mp w1] at hb; exact Nat.lt_irrefl _ hb) (k7 _ _ e)
      have KB : ∀ b o, h5.get? b = some o → b ≠ 262 → h8.get? b = some o := fun b o e hb => K8 b o (Heap.lt_size e) (hx6 b o hb (kI _ _ e))
      obtain ⟨o262', e262', hO'⟩ := TabX.obj (c := 264) (P := 262) ⟨ps6, hok6, htb6⟩
      have e8 := K8 262 _ (Heap.lt_size tab1) e262'
      have nL := (N1 (262, o262) (by k_mem)).2
      have F2 := frExt F1 n262 (Ne.symm nL.1) (fun b o hb e => KB b o e hb)
      have N2 := newsLast (pre := [_, _, _, _, _, _]) N1 e8 KB ?nl8
      case nl8 =>
        intro z hz
        simp only [List.mem_cons, List.not_mem_nil, or_false] at hz
        rcases hz with rfl | rfl | rfl | rfl | rfl | rfl
        · exact tab_neP N1 (by k_mem) (by k_mem) hO (fun _ z => by cases z)
        · exact tab_neP N1 (by k_mem) (by k_mem) hO (fun _ z => by rw [hc0] at z; cases z)
        · exact tab_neP N1 (by k_mem) (by k_mem) hO (fun _ z => by cases z)
        · exact tab_neP N1 (by k_mem) (by k_mem) hO (fun _ z => by cases z)
        · exact tab_neP N1 (by k_mem) (by k_mem) hO (fun _ z => by cases z)
        · exact tab_neP N1 (by k_mem) (by k_mem) hO (fun _ z => by cases z)
      simp only [List.cons_append, List.nil_append] at N2
      have lTU : @LT.lt Nat instLTNat hh.objs.size h8.objs.size := Heap.lt_size (N2.get (a := hh.objs.size) (by k_mem))
      clear F1 N1
      (try dsimp only)
      refine wpAny_push (s := ⟨h8, g8, dr8, tk8, os8⟩) rfl fun h9 k9 e9 s9 => ?_
      have F3 := frKept F2 k9
      have N3 := newsTop F2 N2 k9 e9
      clear F2 N2
      k_steps
      unfold Halt
      rename Fr _ _ _ _ => F1
      rename News _ _ _ _ => N1
      refine call_tuple_same (items := #[.int 1 u3, .int 0 u4]) ⟨_, N1.get (a := mo) (by k_mem), rfl, _, rfl⟩ ?_
      k_steps
      rename Fr _ _ _ _ => F4
      rename News _ _ _ _ => N4
      refine ⟨rfl, hret _ _ h8.objs.size D _ _ _ _ _ _ _ ta tb _ _ ⟨g8, fun z => (AllBare.push z hb7).moved hm8.gens⟩ ?ex (hO'.tab ((code264 X).keeps F4.keep) (N4.get (a := 262) (by k_mem))) (N4.get (by k_mem)) (N4.get (by k_mem)) (N4.get (by k_mem)) (Nat.le_refl _) (Nat.lt_succ_self _) (Nat.le_of_lt lTU)⟩
      case ex =>
        intro z o hz e
        by_cases w1 : z = l
        · subst w1; rw [hl] at e; cases e; exact N4.get (by k_mem)
        · by_cases w2 : z = mo
          · subst w2; rw [hmo] at e; cases e; exact N4.get (by k_mem)
          · exact F4.keep _ _ (hideAll_get _ e (by simp [w1, w2, hz]))
end
section
local macro_rules | `(tactic| walk_at "call ref") => `(tactic| (k_here; (with_reducible show wpAny _ _ (call (Value.ref _) _) _ _ _); refine halt ?_))
example : True := by w_top off; first | walk1 | trivial
section
theorem keptHideAll {g h : Heap} {as : List Addr} (k : Kept g h) (hn : ∀ a ∈ as, g.get? a = none) : Kept g (hideAll h as) := fun b o e =>
  hideAll_get as (k b o e) fun hm => by rw [hn b hm] at e; cases e
set_option maxHeartbeats 400000 in
/-- FQ2.made -/
theorem fq2_made {x dx l mo D0 TU0 : Addr} {nl : Nat} {a b q : Int} {u1 u2 u3 u4 c1 c2 c3 c4 c5 c6 c7 : Tok} (hq : 1 ≤ q) (hx : s.heap.get? x = some (instObj 403 dx)) (hdx : s.heap.get? dx = some (fq2Dict w.params q D0 TU0 mo c1 c2 c3 c4 c5 c6 c7))
    (hl : s.heap.get? l = some (W.listOf #[.int a u1, .int b u2] nl)) (hmo : s.heap.get? mo = some (tupObj #[.int 1 u3, .int 0 u4])) (hT : TabX 264 262 s.heap)
    (X : (K w.params).In (hideAll s.heap [x, dx, l, mo, 262])) (T : Top p loose mean mg mb (hideAll s.heap [x, dx, l, mo, 262])) (hd : dp + 10 < recursionLimit) (hu : un + 140 < cLine)
    (hret : ∀ (x dx TU D : Addr) (a1 a2 a3 a4 a5 a6 a7 ta tb : Tok) (h' : Heap) (tk' : Nat) (g' : GensOf s.gens), Heap.ExtBut 262 s.heap h' → TabX 264 262 h' → h'.get? x = some (instObj 403 dx) → h'.get? dx = some (fq2Dict w.params q D TU mo a1 a2 a3 a4 a5 a6 a7) →
      h'.get? TU = some (tupObj #[.int (Int.fmod a q) ta, .int (Int.fmod b q) tb]) → s.heap.objs.size ≤ dx → dx < x → s.heap.objs.size ≤ TU → Q (.ref x) ⟨h', g'.1, s.drawn, tk', s.os⟩) :
    wpAny (model PySem.Challenge.pw_lh0033_01 w) (Ar dp un gd outer) (call (.ref 392) [.ref x, .ref l]) Q E s := by
  obtain ⟨o262, ho262, hO⟩ := hT.obj
  have N0 : ∀ p ∈ [(x, instObj 403 dx), (dx, fq2Dict w.params q D0 TU0 mo c1 c2 c3 c4 c5 c6 c7), (l, W.listOf #[.int a u1, .int b u2] nl), (mo, tupObj #[.int 1 u3, .int 0 u4]), (262, o262)], s.heap.get? p.1 = some p.2 ∧ (hideAll s.heap [x, dx, l, mo, 262]).get? p.1 = none := by
    intro p hp
    simp only [List.mem_cons, List.not_mem_nil, or_false] at hp
    rcases hp with rfl | rfl | rfl | rfl | rfl
    · exact ⟨hx, hideAll_none _ (by simp)⟩
    · exact ⟨hdx, hideAll_none _ (by simp)⟩
    · exact ⟨hl, hideAll_none _ (by simp)⟩
    · exact ⟨hmo, hideAll_none _ (by simp)⟩
    · exact ⟨ho262, hideAll_none _ (by simp)⟩
  refine wpAny_call ?_
  refine' enterLe (g := hideAll s.heap [x, dx, l, mo, 262]) (fun b o e => of_hideAll _ e) (Nat.le_of_eq (hideAll_size _ _)) X T N0 ?k6 ?k7 ?k8 ?k9 ?kB ?_ ?c2 ?c3 ?c4 ?c5
  case k6 => k_is
  case k7 => k_is
  case k8 => first | ktr_room | (dsimp only [Ar]; omega)
  case k9 => exact BindsTo.of_eq rfl
  case kB => exact locs rfl
  case c2 => exact rfl
  case c3 => exact rfl
  case c4 => exact rfl
  case c5 => decide
  intro L' h' F' N'
  (try dsimp only)
  (try k_fold)
  k_steps
  unfold Halt
  rename Fr _ _ _ _ => F1
  rename News _ _ _ _ => N1
  have kg : Kept (hideAll s.heap [x, dx, l, mo, 262]) (hideAll h' [l, mo, 262]) := keptHideAll F1.keep fun c hc => hideAll_none _ (by
    simp only [List.mem_cons, List.not_mem_nil, or_false] at hc ⊢
    rcases hc with rfl | rfl | rfl <;> simp)
  refine fq2_new (s := ⟨_, _, _, _, _⟩) hq (N1.get (a := l) (by k_mem)) (N1.get (a := mo) (by k_mem)) (hO.tab ((code264 X).keeps F1.keep) (N1.get (a := 262) (by k_mem))) (X.keeps kg) (T.keeps kg) (by first | ktr_room | (dsimp only [Ar]; omega)) (by first | ktr_room | (dsimp only [Ar]; omega))
    fun x2 dx2 TU2 D2 a1 a2 a3 a4 a5 a6 a7 ta tb h7 tk7 g7 k7 t7 e1 e2 e3 l1 l2 l3 => ?_
  ((try dsimp only); (try k_unfold); (try dsimp only))
  have ab := F1.above
  rw [hideAll_size] at ab
  have abl := Nat.le_trans ab (Nat.le_of_lt F1.ns.lt)
  refine hret _ _ _ _ _ _ _ _ _ _ _ _ _ _ _ _ (fun z o hz e => k7 z o hz ?_) t7 e1 e2 e3 (Nat.le_trans abl l1) l2 (Nat.le_trans abl l3)
  by_cases w1 : z = x
  · subst w1; rw [hx] at e; cases e; exact N1.get (by k_mem)
  · by_cases w2 : z = dx
    · subst w2; rw [hdx] at e; cases e; exact N1.get (by k_mem)
    · by_cases w3 : z = l
      · subst w3; rw [hl] at e; cases e; exact N1.get (by k_mem)
      · by_cases w4 : z = mo
        · subst w4; rw [hmo] at e; cases e; exact N1.get (by k_mem)
        · exact F1.keep _ _ (hideAll_get _ e (by simp [w1, w2, w3, w4, hz]))
end
example : True := by w_top off; first | walk1 | trivial
section
local macro_rules | `(tactic| walk_at "call builtin:list.append") => `(tactic| (k_here; refine halt ?_))
noncomputable abbrev bodV : List Stmt := takeF (x := bod70.getD 4 (.Pass ⟨0, 0, 0, 0⟩)) rfl
noncomputable abbrev tgtV : Expr := takeT (x := bod70.getD 4 (.Pass ⟨0, 0, 0, 0⟩)) rfl
noncomputable abbrev bodJ : List Stmt := takeF (x := bodV.getD 1 (.Pass ⟨0, 0, 0, 0⟩)) rfl
noncomputable abbrev tgtJ : Expr := takeT (x := bodV.getD 1 (.Pass ⟨0, 0, 0, 0⟩)) rfl
noncomputable abbrev envV (L : Addr) : Env := envOf (Str.ofString "hash_to_field_FQ2") sco70 L 70 (.ref 69)
noncomputable abbrev mP70 (msg mark : Array UInt8) (t1 t2 t3 t4 t5 : Tok) (f x : Addr) (d block : Int) : Str → Option Value := fun y =>
  if y = Str.ofString "field" then some (.ref x) else if y = Str.ofString "r_in_bytes" then some (.int block t5) else if y = Str.ofString "b_in_bytes" then some (.int d t4) else if y = Str.ofString "hash_function" then some (.ref f) else if y = Str.ofString "DST" then some (.bytes mark t3) else if y = Str.ofString "count" then some (.int 1 t2) else if y = Str.ofString "message" then some (.bytes msg t1) else none
noncomputable abbrev mU (msg mark be : Array UInt8) (t1 t2 t3 t4 t5 te tm : Tok) (f x U : Addr) (d block : Int) (lv : Value) : Str → Option Value := fun y =>
  if y = Str.ofString "u" then some (.ref U) else if y = Str.ofString "pseudo_random_bytes" then some (.bytes be te) else if y = Str.ofString "len_in_bytes" then some lv else if y = Str.ofString "M" then some (.int 2 tm) else mP70 msg mark t1 t2 t3 t4 t5 f x d block y
noncomputable abbrev mJ (msg mark be : Array UInt8) (t1 t2 t3 t4 t5 te tm ti : Tok) (f x U Eo : Addr) (d block : Int) (lv : Value) (jv ov tv : Option Value) : Str → Option Value := fun y =>
  if y = Str.ofString "tv" then tv else if y = Str.ofString "elem_offset" then ov else if y = Str.ofString "j" then jv else if y = Str.ofString "e" then some (.ref Eo) else if y = Str.ofString "i" then some (.int 0 ti) else mU msg mark be t1 t2 t3 t4 t5 te tm f x U d block lv y
/-- a part of 64 octets -/
noncomputable def partL (es : List Int) (o : Int) : List Int := (es.drop (clipAt es.length o)).take (clipAt es.length (o + 64) - clipAt es.length o)
theorem partL_le {es : List Int} {o : Int} (h : es.length ≤ 256) : (partL es o).length ≤ 256 := by
  rw [partL, List.length_take, List.length_drop]; omega
theorem mJ_set {msg mark be : Array UInt8} {t1 t2 t3 t4 t5 te tm ti : Tok} {f x U Eo : Addr} {d block : Int} {lv v1 v2 : Value} {jv ov tv : Option Value} :
    (fun y => if y = Str.ofString "tv" then some v2 else if y = Str.ofString "elem_offset" then some v1 else mJ msg mark be t1 t2 t3 t4 t5 te tm ti f x U Eo d block lv jv ov tv y) = mJ msg mark be t1 t2 t3 t4 t5 te tm ti f x U Eo d block lv jv (some v1) (some v2) := by
  funext y
  by_cases e1 : y = Str.ofString "tv"
  · subst e1; rfl
  · by_cases e2 : y = Str.ofString "elem_offset"
    · subst e2; rfl
    · simp only [mJ, if_neg e1, if_neg e2]
set_option maxHeartbeats 400000 in
theorem htf2_turn {g h : Heap} {L I1 I2 f x dx U Eo D0 TU0 mo : Addr} {oI oI1 oU : Obj} {msg mark be : Array UInt8} {t1 t2 t3 t4 t5 te tm ti tj c1 c2 c3 c4 c5 c6 c7 : Tok} {d block q j : Int} {lv : Value} {ov tv : Option Value} {vs : Array Value} {nv : Nat} {es : List Int} {tl : List (Addr × Obj)} {tk : Nat} {gn : Array GenState} {Q : Flow → Shared → Prop}
    (F : Fr g L h (mJ msg mark be t1 t2 t3 t4 t5 te tm ti f x U Eo d block lv (some (.int j tj)) ov tv)) (N : News g L h ((I2, oI) :: (Eo, W.listOf vs nv) :: (I1, oI1) :: (U, oU) :: (x, instObj 403 dx) :: (dx, fq2Dict w.params q D0 TU0 mo c1 c2 c3 c4 c5 c6 c7) :: tl))
    (hE : ∀ p ∈ (I2, oI) :: (I1, oI1) :: (U, oU) :: (x, instObj 403 dx) :: (dx, fq2Dict w.params q D0 TU0 mo c1 c2 c3 c4 c5 c6 c7) :: tl, p.1 ≠ Eo) (X : (K w.params).In g) (T : Top p loose mean mg mb g) (hes : KBw.bInts be = es) (les : es.length ≤ 128) (hvs : vs.size ≤ 4) (hq : 1 ≤ q) (j0 : 0 ≤ j) (j1 : j ≤ 1) (hd : dp + 6 < recursionLimit) (hu : un + 90 < cLine)
    (go : ∀ h' tk' ov' tv' t' nv', Fr g L h' (mJ msg mark be t1 t2 t3 t4 t5 te tm ti f x U Eo d block lv (some (.int j tj)) ov' tv') → News g L h' ((I2, oI) :: (Eo, W.listOf (vs.push (.int (Int.fmod (KFB.value (partL es (64 * (j + 0 * 2)))) q) t')) nv') :: (I1, oI1) :: (U, oU) :: (x, instObj 403 dx) :: (dx, fq2Dict w.params q D0 TU0 mo c1 c2 c3 c4 c5 c6 c7) :: tl) → Q .next ⟨h', gn, s.drawn, tk', s.os⟩) :
    wpAny (model PySem.Challenge.pw_lh0033_01 w) ((Ar dp un gd outer).deeper (envV L)) (execs bodJ (envV L)) Q E ⟨h, gn, s.drawn, tk, s.os⟩ := by
  delta bodJ bodV takeF envV sco70 takeS mJ mU
  k_steps
  unfold Halt
  rename Fr _ _ _ _ => F1
  rename News _ _ _ _ => N1
  rename KBw.bInts _ = List.take _ _ => ek
  refine os2ip_spec (s := ⟨_, _, _, _, _⟩) (X.keeps F1.keep) (T.keeps F1.keep) ek (partL_le (by omega)) (by first | ktr_room | (dsimp only [Ar]; omega)) fun to ho tko ko => ?_
  have F2 := frKept F1 ko
  have N2 := newsKept N1 ko
  clear F1 N1
  k_steps
  unfold Halt
  rename Fr _ _ _ _ => F1
  rename News _ _ _ _ => N1
  refine append_at (hsz := by rw [sizeLine_eq]; omega) (N1.get (a := Eo) (by k_mem)) fun h7 s7 e7 => ?_
  dsimp only
  have nU := N1 (Eo, W.listOf vs nv) (by k_mem)
  have F2 := frExt F1 nU.2.2 (Ne.symm nU.2.1) s7.extBut
  have N2 := newsCh (pre := [(I2, oI)]) N1 e7 s7.extBut hE
  refine wpAny_execs_nil (go _ _ _ _ _ _ (frEq F2 mJ_set) N2)
end
example : True := by w_top off; first | walk1 | trivial
section
theorem mJ_start {msg mark be : Array UInt8} {t1 t2 t3 t4 t5 te tm ti : Tok} {f x U Eo : Addr} {d block : Int} {lv : Value} :
    (fun y => if y = Str.ofString "e" then some (.ref Eo) else if y = Str.ofString "i" then some (.int 0 ti) else mU msg mark be t1 t2 t3 t4 t5 te tm f x U d block lv y) = mJ msg mark be t1 t2 t3 t4 t5 te tm ti f x U Eo d block lv none none none := by
  funext y
  by_cases e1 : y = Str.ofString "tv"
  · subst e1; rfl
  · by_cases e2 : y = Str.ofString "elem_offset"
    · subst e2; rfl
    · by_cases e3 : y = Str.ofString "j"
      · subst e3; rfl
      · simp only [mJ, if_neg e1, if_neg e2, if_neg e3]
theorem mJ_j {msg mark be : Array UInt8} {t1 t2 t3 t4 t5 te tm ti : Tok} {f x U Eo : Addr} {d block : Int} {lv v1 : Value} {jv ov tv : Option Value} :
    (fun y => if y = Str.ofString "j" then some v1 else mJ msg mark be t1 t2 t3 t4 t5 te tm ti f x U Eo d block lv jv ov tv y) = mJ msg mark be t1 t2 t3 t4 t5 te tm ti f x U Eo d block lv (some v1) ov tv := by
  funext y
  by_cases e1 : y = Str.ofString "j"
  · subst e1; rfl
  · simp only [mJ, if_neg e1]
set_option maxHeartbeats 400000 in
theorem htf2_inner {g h : Heap} {L I1 I2 f x dx U Eo D0 TU0 mo : Addr} {oI1 oU : Obj} {msg mark be : Array UInt8} {t1 t2 t3 t4 t5 te tm ti c1 c2 c3 c4 c5 c6 c7 : Tok} {d block q : Int} {lv : Value} {es : List Int} {tl : List (Addr × Obj)} {tk : Nat} {gn : Array GenState} {R : Result → Shared → Prop}
    (F : Fr g L h (mJ msg mark be t1 t2 t3 t4 t5 te tm ti f x U Eo d block lv none none none)) (N : News g L h ((I2, rangeIt 0 ((2 : Nat) : Int)) :: (Eo, W.listOf #[] 0) :: (I1, oI1) :: (U, oU) :: (x, instObj 403 dx) :: (dx, fq2Dict w.params q D0 TU0 mo c1 c2 c3 c4 c5 c6 c7) :: tl))
    (hE : ∀ p ∈ (I1, oI1) :: (U, oU) :: (x, instObj 403 dx) :: (dx, fq2Dict w.params q D0 TU0 mo c1 c2 c3 c4 c5 c6 c7) :: tl, p.1 ≠ Eo) (hIE : Eo ≠ I2) (hI : ∀ p ∈ (I1, oI1) :: (U, oU) :: (x, instObj 403 dx) :: (dx, fq2Dict w.params q D0 TU0 mo c1 c2 c3 c4 c5 c6 c7) :: tl, p.1 ≠ I2) (X : (K w.params).In g) (T : Top p loose mean mg mb g) (hes : KBw.bInts be = es) (les : es.length ≤ 128) (hq : 1 ≤ q) (hd : dp + 6 < recursionLimit) (hu : un + 90 < cLine)
    (go : ∀ h' tk' jv' ov' tv' ta tb nv', Fr g L h' (mJ msg mark be t1 t2 t3 t4 t5 te tm ti f x U Eo d block lv (some jv') ov' tv') → News g L h' ((Eo, W.listOf #[.int (Int.fmod (KFB.value (partL es (64 * (0 + 0 * 2)))) q) ta, .int (Int.fmod (KFB.value (partL es (64 * (1 + 0 * 2)))) q) tb] nv') :: (I1, oI1) :: (U, oU) :: (x, instObj 403 dx) :: (dx, fq2Dict w.params q D0 TU0 mo c1 c2 c3 c4 c5 c6 c7) :: tl) → R (.ok .next) ⟨h', gn, s.drawn, tk', s.os⟩) :
    codeAny (model PySem.Challenge.pw_lh0033_01 w) ((Ar dp un gd outer).deeper (envV L)) (.forLoop tgtJ (.ref I2) bodJ [] (envV L)) R ⟨h, gn, s.drawn, tk, s.os⟩ := by
  have hI' : ∀ vs nv, ∀ p ∈ (Eo, W.listOf vs nv) :: (I1, oI1) :: (U, oU) :: (x, instObj 403 dx) :: (dx, fq2Dict w.params q D0 TU0 mo c1 c2 c3 c4 c5 c6 c7) :: tl, p.1 ≠ I2 := by
    intro vs nv p hp
    rcases List.mem_cons.mp hp with rfl | hp
    · exact hIE
    · exact hI p hp
  have hE' : ∀ oI, ∀ p ∈ (I2, oI) :: (I1, oI1) :: (U, oU) :: (x, instObj 403 dx) :: (dx, fq2Dict w.params q D0 TU0 mo c1 c2 c3 c4 c5 c6 c7) :: tl, p.1 ≠ Eo := by
    intro oI p hp
    rcases List.mem_cons.mp hp with rfl | hp
    · exact Ne.symm hIE
    · exact hE p hp
  refine codeA_forTurn ?_
  refine wpAny_pyNext_range_item (s := ⟨_, _, _, _, _⟩) (N.get (by k_mem)) (by decide) fun h5 e5 sb5 => ?_
  dsimp only
  have hA := N _ (List.mem_cons_self ..)
  have F5 := frExt F hA.2.2 (Ne.symm hA.2.1) sb5.extBut
  have N5 := newsBut N e5 sb5.extBut (hI' _ _)
  refine wpAny_assign_Name (stN (s := ⟨_, _, _, _, _⟩) F5 N5 fun h6 F6 N6 => ?_)
  have F7 := frEq F6 mJ_j
  refine htf2_turn F7 N6 (hE' _) X T hes les (by decide) hq (by decide) (by decide) hd hu fun h8 tk8 ov8 tv8 t8 nv8 F8 N8 => ?_
  clear F5 N5 F6 N6 F7
  refine codeA_forTurn ?_
  refine wpAny_pyNext_range_item (s := ⟨_, _, _, _, _⟩) (N8.get (by k_mem)) (by decide) fun h9 e9 sb9 => ?_
  dsimp only
  have hB := N8 _ (List.mem_cons_self ..)
  have F9 := frExt F8 hB.2.2 (Ne.symm hB.2.1) sb9.extBut
  have N9 := newsBut N8 e9 sb9.extBut (hI' _ _)
  refine wpAny_assign_Name (stN (s := ⟨_, _, _, _, _⟩) F9 N9 fun h10 F10 N10 => ?_)
  have F11 := frEq F10 mJ_j
  refine htf2_turn F11 N10 (hE' _) X T hes les (by simp) hq (by decide) (by decide) hd hu fun h12 tk12 ov12 tv12 t12 nv12 F12 N12 => ?_
  clear F9 N9 F10 N10 F11
  refine codeA_forTurn ?_
  refine wpAny_pyNext_range_end (s := ⟨_, _, _, _, _⟩) rfl (N12.get (by k_mem)) (by decide) fun h13 e13 => ?_
  have hC := N12 _ (List.mem_cons_self ..)
  have F13 := frExt F12 hC.2.2 (Ne.symm hC.2.1) e13
  have N13 := newsDrop (pre := []) N12 e13 (hI' _ _)
  refine wpAny_execs_nil ?_
  exact go _ _ _ _ _ _ _ _ F13 N13
end
example : True := by w_top off; first | walk1 | trivial
section
local macro_rules | `(tactic| walk_at "call builtin:list.append") => `(tactic| (k_here; refine halt ?_))
local macro_rules | `(tactic| walk_at "exec For Name Call cons nil") => `(tactic| (k_here; refine halt ?_))
local macro_rules | `(tactic| walk_at "newList") => `(tactic| (k_here; refine halt ?_))
local macro_rules | `(tactic| walk_at "execs cons Assign cons") => `(tactic| (k_here; (with_reducible show wpAny _ _ (execs (Stmt.Assign [Expr.Name _ _] (Expr.List [] _) _ :: _) _) _ _ _); (with_reducible refine wpAny_execs_cons ?_)))
local macro_rules | `(tactic| walk_at "pyIter ref") => `(tactic| (k_here; refine halt ?_))
local macro_rules | `(tactic| walk_at "call type:tuple") => `(tactic| (k_here; refine halt ?_))
theorem mP70_is {msg mark : Array UInt8} {t1 t2 t3 t4 t5 : Tok} {f x : Addr} {d block : Int} {l : List (Str × Value)}
    (hl : l = [(Str.ofString "field", .ref x), (Str.ofString "r_in_bytes", .int block t5), (Str.ofString "b_in_bytes", .int d t4), (Str.ofString "hash_function", .ref f), (Str.ofString "DST", .bytes mark t3), (Str.ofString "count", .int 1 t2), (Str.ofString "message", .bytes msg t1)]) :
    (fun y => List.lookup y l) = mP70 msg mark t1 t2 t3 t4 t5 f x d block := by
  funext y
  subst hl
  simp only [mP70, lookup_if, List.lookup_nil]
set_option maxHeartbeats 800000 in
theorem htf2_spec {bm bk : Array UInt8} {ms ks : List Int} {f x dx mo D0 TU0 : Addr} {d block q : Int} {t1 t2 t3 t4 t5 c1 c2 c3 c4 c5 c6 c7 u3 u4 : Tok} (hq : 1 ≤ q) (hx : s.heap.get? x = some (instObj 403 dx)) (hdx : s.heap.get? dx = some (fq2Dict w.params q D0 TU0 mo c1 c2 c3 c4 c5 c6 c7)) (hmo : s.heap.get? mo = some (tupObj #[.int 1 u3, .int 0 u4]))
    (X : (K w.params).In (hideAll s.heap [x, dx, mo, 51, 262])) (T : Top p loose mean mg mb (hideAll s.heap [x, dx, mo, 51, 262])) (hT : TabX 55 51 s.heap) (hT2 : TabX 264 262 s.heap) (H : HashAt (hideAll s.heap [x, dx, mo, 51, 262]) f d) (h1 : KBw.bInts bm = ms) (h2 : KBw.bInts bk = ks) (n1 : ms.length ≤ 8) (n2 : ks.length ≤ 255) (d0 : 64 ≤ d) (d1 : d ≤ 72) (b0 : 0 ≤ block) (b1 : block ≤ 8) (hd : dp + 12 < recursionLimit) (hu : un + 200 < cLine)
    (hret : ∀ (tu x2 dx2 TU2 D2 : Addr) (a1 a2 a3 a4 a5 a6 a7 ta tb : Tok) (h' : Heap) (tk' : Nat) (g' : GensOf s.gens), (∀ b o, b ≠ 51 → b ≠ 262 → s.heap.get? b = some o → h'.get? b = some o) → TabX 55 51 h' → TabX 264 262 h' → h'.get? tu = some { cls := .type "tuple", data := .seq #[.ref x2] } → h'.get? x2 = some (instObj 403 dx2) →
      h'.get? dx2 = some (fq2Dict w.params q D2 TU2 mo a1 a2 a3 a4 a5 a6 a7) → h'.get? TU2 = some (tupObj #[.int (Int.fmod (Int.fmod (KFB.value (partL ((xmdL d ms ks (1 * 2 * 64) block (-(Int.fdiv (-(1 * 2 * 64)) d) - 1).toNat).take (1 * 2 * 64 : Int).toNat) (64 * (0 + 0 * 2)))) q) q) ta, .int (Int.fmod (Int.fmod (KFB.value (partL ((xmdL d ms ks (1 * 2 * 64) block (-(Int.fdiv (-(1 * 2 * 64)) d) - 1).toNat).take (1 * 2 * 64 : Int).toNat) (64 * (1 + 0 * 2)))) q) q) tb]) →
      s.heap.objs.size ≤ dx2 → dx2 < x2 → s.heap.objs.size ≤ TU2 → x2 < tu → Q (.ref tu) ⟨h', g'.1, s.drawn, tk', s.os⟩) :
    wpAny (model PySem.Challenge.pw_lh0033_01 w) (Ar dp un gd outer) (call (.ref 70) [.bytes bm t1, .int 1 t2, .bytes bk t3, .ref f, .int d t4, .int block t5, .ref x]) Q E s := by
  obtain ⟨o51, ho51, hO⟩ := hT.obj
  obtain ⟨o262, ho262, hO2⟩ := hT2.obj
  have N0 : ∀ p ∈ [(x, instObj 403 dx), (dx, fq2Dict w.params q D0 TU0 mo c1 c2 c3 c4 c5 c6 c7), (mo, tupObj #[.int 1 u3, .int 0 u4]), (51, o51), (262, o262)], s.heap.get? p.1 = some p.2 ∧ (hideAll s.heap [x, dx, mo, 51, 262]).get? p.1 = none := by
    intro p hp
    simp only [List.mem_cons, List.not_mem_nil, or_false] at hp
    rcases hp with rfl | rfl | rfl | rfl | rfl
    · exact ⟨hx, hideAll_none _ (by simp)⟩
    · exact ⟨hdx, hideAll_none _ (by simp)⟩
    · exact ⟨hmo, hideAll_none _ (by simp)⟩
    · exact ⟨ho51, hideAll_none _ (by simp)⟩
    · exact ⟨ho262, hideAll_none _ (by simp)⟩
  refine wpAny_call ?_
  refine' enterLe (g := hideAll s.heap [x, dx, mo, 51, 262]) (fun b o e => of_hideAll _ e) (Nat.le_of_eq (hideAll_size _ _)) X T N0 ?k6 ?k7 ?k8 ?k9 ?kB ?_ ?c2 ?c3 ?c4 ?c5
  case k6 => k_is
  case k7 => k_is
  case k8 => first | ktr_room | (dsimp only [Ar]; omega)
  case k9 => exact BindsTo.of_eq rfl
  case kB => exact locs rfl
  case c2 => exact rfl
  case c3 => exact rfl
  case c4 => exact rfl
  case c5 => decide
  intro L' h' F' N'
  (try dsimp only)
  (try k_fold)
  have F2 := frEq F' (mP70_is (by rfl))
  clear F' N0
  k_steps
  unfold Halt
  rename Fr _ _ _ _ => F1
  rename News _ _ _ _ => N1
  have h51 : (hideAll s.heap [x, dx, mo, 51, 262]).get? 51 = none := hideAll_none _ (by simp)
  have hL51 : L' ≠ 51 := Ne.symm (N1 (51, o51) (by k_mem)).2.1
  refine exm_spec (s := ⟨_, _, _, _, _⟩) (X.keeps (keptHide2 F1.keep h51)) (T.keeps (keptHide2 F1.keep h51)) (hO.tab ((code55 X).keeps F1.keep) (N1.get (a := 51) (by k_mem))) (H.kept (keptHide2 F1.keep h51)) h1 h2 n1 n2 (by decide) (by omega) (by omega) d1 b0 b1 (by first | ktr_room | (dsimp only [Ar]; omega)) (by first | ktr_room | (dsimp only [Ar]; omega)) fun be te he tke ge ke xe ee => ?_
  obtain ⟨o51', e51, hO'⟩ := xe.obj
  have F2 := frExt F1 h51 hL51 ke
  have N2 := newsCh (pre := [_, _, _]) N1 e51 ke ?n51
  case n51 =>
    intro z hz
    simp only [List.cons_append, List.nil_append, List.mem_cons, List.not_mem_nil, or_false] at hz
    rcases hz with rfl | rfl | rfl | rfl
    · exact tab_neP N1 (by k_mem) (by k_mem) hO (fun _ z => by cases z)
    · exact tab_neP N1 (by k_mem) (by k_mem) hO (fun _ z => by cases z)
    · exact tab_neP N1 (by k_mem) (by k_mem) hO (fun _ z => by cases z)
    · show (262 : Addr) ≠ 51; decide
  simp only [List.cons_append, List.nil_append] at N2
  clear F1 N1
  (try dsimp only at F2 N2)
  generalize hes : (xmdL d ms ks (1 * 2 * 64) block (-(Int.fdiv (-(1 * 2 * 64)) d) - 1).toNat).take (1 * 2 * 64 : Int).toNat = es at ee
  have les : es.length ≤ 128 := by rw [← hes]; exact List.length_take_le _ _
  generalize htk : s.toks + _ = tk0 at F2
  k_steps
  unfold Halt
  rename Fr _ _ _ _ => F1
  rename News _ _ _ _ => N1
  refine newList_K (vs := []) F1 N1 (fun U h3 F3 N3 lU => ?_) (Nat.zero_le _)
  clear F1 N1
  k_steps
  unfold Halt
  refine wpAny_For ?_
  k_steps
  unfold Halt
  rename Fr _ _ _ _ => F1
  rename News _ _ _ _ => N1
  rename IsRange _ _ _ _ _ _ _ _ => R1
  refine wpAny_pyIter_range (s := ⟨_, _, _, _, _⟩) R1 (small_one (by decide) (by decide) (by decide) (by decide)) ?_
  rw [rangeSize_nat]
  (try dsimp only)
  refine codeA_push rfl fun h4 hk4 ht4 hs4 => ?_
  have F4 := frKept F1 hk4
  have N4 := newsTop F1 N1 hk4 ht4
  have hlt := fun p hp => Nat.ne_of_lt (Heap.lt_size (N1 p hp).1)
  clear F1 N1
  refine codeA_forTurn ?_
  refine wpAny_pyNext_range_item (s := ⟨_, _, _, _, _⟩) (N4.get (by k_mem)) (by decide) fun h5 e5 sb5 => ?_
  dsimp only
  have hI := N4 _ (List.mem_cons_self ..)
  have F5 := frExt F4 hI.2.2 (Ne.symm hI.2.1) sb5.extBut
  have N5 := newsBut N4 e5 sb5.extBut hlt
  clear F4 N4
  refine wpAny_assign_Name (stN (s := ⟨_, _, _, _, _⟩) F5 N5 fun h6 F6 N6 => ?_)
  clear F5 N5
  k_steps
  unfold Halt
  refine newList_K (vs := []) F6 N6 (fun Eo h7 F7 N7 lE => ?_) (Nat.zero_le _)
  clear F6 N6
  k_steps
  unfold Halt
  refine wpAny_For ?_
  k_steps
  unfold Halt
  rename Fr _ _ _ _ => F1
  rename News _ _ _ _ => N1
  rename IsRange _ _ _ _ _ _ _ _ => R2
  refine wpAny_pyIter_range (s := ⟨_, _, _, _, _⟩) R2 (small_one (by decide) (by decide) (by decide) (by decide)) ?_
  rw [rangeSize_nat]
  (try dsimp only)
  refine codeA_push rfl fun h8 hk8 ht8 hs8 => ?_
  have F8 := frKept F1 hk8
  have N8 := newsTop F1 N1 hk8 ht8
  have hlt2 := fun p hp => Nat.ne_of_lt (Heap.lt_size (N1 p hp).1)
  clear F1 N1
  refine htf2_inner (frEq F8 mJ_start) N8 (fun p hp => Nat.ne_of_lt (lE p hp)) (hlt2 _ (List.mem_cons_self ..)) (fun p hp => hlt2 p (List.mem_cons_of_mem _ hp)) X T ee les hq (by first | ktr_room | (dsimp only [Ar]; omega)) (by first | ktr_room | (dsimp only [Ar]; omega)) fun h9 tk9 jv ov tv ta tb nv F9 N9 => ?_
  clear F8 N8
  (try dsimp only)
  k_steps
  unfold Halt
  generalize hva : Int.fmod (KFB.value (partL es (64 * (0 + 0 * 2)))) q = va at N9
  generalize hvb : Int.fmod (KFB.value (partL es (64 * (1 + 0 * 2)))) q = vb at N9
  have gg : ∀ p ∈ [x, dx, Eo, mo, 262], (hideAll s.heap [x, dx, mo, 51, 262]).get? p = none := by
    simp only [List.mem_cons, List.not_mem_nil, or_false, forall_eq_or_imp, forall_eq]
    exact ⟨(N9 (x, instObj 403 dx) (by k_mem)).2.2, (N9 (dx, fq2Dict w.params q D0 TU0 mo c1 c2 c3 c4 c5 c6 c7) (by k_mem)).2.2, (N9 _ (List.mem_cons_self ..)).2.2, (N9 (mo, tupObj #[.int 1 u3, .int 0 u4]) (by k_mem)).2.2, (N9 (262, o262) (by k_mem)).2.2⟩
  have kg := keptHideAll F9.keep gg
  have hltm := fun p hp => Heap.lt_size (N9 p hp).1
  refine fq2_made (s := ⟨_, _, _, _, _⟩) hq (N9.get (a := x) (by k_mem)) (N9.get (a := dx) (by k_mem)) (N9.get (a := Eo) (by k_mem)) (N9.get (a := mo) (by k_mem)) (hO2.tab ((code264 X).keeps F9.keep) (N9.get (a := 262) (by k_mem))) (X.keeps kg) (T.keeps kg) (by first | ktr_room | (dsimp only [Ar]; omega)) (by first | ktr_room | (dsimp only [Ar]; omega))
    fun x2 dx2 TU2 D2 a1 a2 a3 a4 a5 a6 a7 xa xb hm tkm gm km tm em1 em2 em3 lm1 lm2 lm3 => ?_
  dsimp only at lm1 lm3 km
  obtain ⟨o262', e262, hO2'⟩ := tm.obj
  have h262 : (hideAll s.heap [x, dx, mo, 51, 262]).get? 262 = none := hideAll_none _ (by simp)
  have hL262 : L' ≠ 262 := Ne.symm (N9 (262, o262) (by k_mem)).2.1
  have lL9 := F9.ns.lt
  have aL9 := F9.above
  have F10 := frExt F9 h262 hL262 km
  have N10 := newsCh (pre := [_, _, _, _, _, _, _]) N9 e262 km ?n262
  case n262 =>
    intro z hz
    simp only [List.cons_append, List.nil_append, List.mem_cons, List.not_mem_nil, or_false] at hz
    rcases hz with rfl | rfl | rfl | rfl | rfl | rfl | rfl
    · exact tab_neP N9 (by k_mem) (by k_mem) hO2 (fun _ z => by cases z)
    · exact Ne.symm (hlt (262, o262) (by k_mem))
    · exact tab_neP N9 (by k_mem) (by k_mem) hO2 (fun _ z => by cases z)
    · exact tab_neP N9 (by k_mem) (by k_mem) hO2 (fun _ z => by cases z)
    · exact tab_neP N9 (by k_mem) (by k_mem) hO2 (fun _ z => by cases z)
    · exact tab_neP N9 (by k_mem) (by k_mem) hO2 (fun _ z => by cases z)
    · show (51 : Addr) ≠ 262; decide
  simp only [List.cons_append, List.nil_append] at N10
  have N11 := newsCons em1 (Nat.lt_trans (Nat.lt_of_lt_of_le lL9 lm1) lm2) (Nat.le_trans aL9 (Nat.le_trans (Nat.le_of_lt lL9) (Nat.le_trans lm1 (Nat.le_of_lt lm2)))) (newsCons em2 (Nat.lt_of_lt_of_le lL9 lm1) (Nat.le_trans aL9 (Nat.le_trans (Nat.le_of_lt lL9) lm1)) (newsCons em3 (Nat.lt_of_lt_of_le lL9 lm3) (Nat.le_trans aL9 (Nat.le_trans (Nat.le_of_lt lL9) lm3)) N10))
  clear N10 F9 N9
  k_steps
  unfold Halt
  have uI := hltm _ (List.mem_cons_of_mem _ (List.mem_cons_self ..))
  have uU := hltm (U, W.listOf #[] 0) (by k_mem)
  refine append_at (hsz := by decide +kernel) (N11.get (a := U) (by k_mem)) fun h20 s20 e20 => ?_
  dsimp only
  have nU := N11 (U, W.listOf #[] 0) (by k_mem)
  have F21 := frExt F10 nU.2.2 (Ne.symm nU.2.1) s20.extBut
  have N21 := newsCh (pre := [_, _, _, _, _]) N11 e20 s20.extBut ?nu
  case nu =>
    simp only [List.cons_append, List.nil_append, List.mem_cons, List.not_mem_nil, or_false, forall_eq_or_imp, forall_eq]
    exact ⟨Nat.ne_of_gt (Nat.lt_of_lt_of_le uU (Nat.le_trans lm1 (Nat.le_of_lt lm2))), Nat.ne_of_gt (Nat.lt_of_lt_of_le uU lm1), Nat.ne_of_gt (Nat.lt_of_lt_of_le uU lm3), Nat.ne_of_gt (lE (U, W.listOf #[] 0) (by k_mem)), Ne.symm (hlt (U, W.listOf #[] 0) (by k_mem)), Nat.ne_of_lt (lU (x, instObj 403 dx) (by k_mem)), Nat.ne_of_lt (lU (dx, fq2Dict w.params q D0 TU0 mo c1 c2 c3 c4 c5 c6 c7) (by k_mem)), Nat.ne_of_lt (lU (mo, tupObj #[.int 1 u3, .int 0 u4]) (by k_mem)), Nat.ne_of_lt (lU (51, o51') (by k_mem)), Nat.ne_of_lt (lU (262, o262) (by k_mem))⟩
  clear F10 N11
  k_steps
  dsimp only
  simp only [List.cons_append, List.nil_append] at N21
  refine codeA_forTurn ?_
  refine wpAny_pyNext_range_end (s := ⟨_, _, _, _, _⟩) rfl (N21.get (by k_mem)) (by decide) fun h22 e22 => ?_
  have nI := N21 _ (List.mem_cons_of_mem _ (List.mem_cons_of_mem _ (List.mem_cons_of_mem _ (List.mem_cons_of_mem _ (List.mem_cons_self ..)))))
  have F23 := frExt F21 nI.2.2 (Ne.symm nI.2.1) e22
  have N23 := newsDrop (pre := [_, _, _, _]) N21 e22 ?ui
  case ui =>
    simp only [List.cons_append, List.nil_append, List.mem_cons, List.not_mem_nil, or_false, forall_eq_or_imp, forall_eq]
    exact ⟨Nat.ne_of_gt (Nat.lt_of_lt_of_le uI (Nat.le_trans lm1 (Nat.le_of_lt lm2))), Nat.ne_of_gt (Nat.lt_of_lt_of_le uI lm1), Nat.ne_of_gt (Nat.lt_of_lt_of_le uI lm3), Nat.ne_of_gt (lE _ (List.mem_cons_self ..)), hlt (U, W.listOf #[] 0) (by k_mem), hlt (x, instObj 403 dx) (by k_mem), hlt (dx, fq2Dict w.params q D0 TU0 mo c1 c2 c3 c4 c5 c6 c7) (by k_mem), hlt (mo, tupObj #[.int 1 u3, .int 0 u4]) (by k_mem), hlt (51, o51') (by k_mem), hlt (262, o262) (by k_mem)⟩
  simp only [List.cons_append, List.nil_append] at N23
  clear F21 N21
  refine wpAny_execs_nil ?_
  (try dsimp only)
  k_steps
  unfold Halt
  rename Fr _ _ _ _ => F1
  rename News _ _ _ _ => N1
  refine call_tuple_list (hsz := by show 1 ≤ sizeLine; decide +kernel) ⟨_, N1.get (a := U) (by k_mem), rfl, _, rfl⟩ fun h9 k9 => ?_
  have kx : ∀ b o, b ≠ 51 → b ≠ 262 → s.heap.get? b = some o → h9.get? b = some o := fun b o hb1 hb2 e => k9 _ _ (by
    by_cases q1 : b = x
    · subst q1; rw [hx] at e; cases e; exact N1.get (by k_mem)
    · by_cases q2 : b = dx
      · subst q2; rw [hdx] at e; cases e; exact N1.get (by k_mem)
      · by_cases q3 : b = mo
        · subst q3; rw [hmo] at e; cases e; exact N1.get (by k_mem)
        · exact F1.keep _ _ (hideAll_get _ e (by simp [q1, q2, q3, hb1, hb2])))
  have ltL : s.heap.objs.size ≤ L' := by
    have ab := F1.above
    rwa [hideAll_size] at ab
  have l9 := Nat.le_trans ltL (Nat.le_of_lt lL9)
  subst hva hvb hes
  refine hret _ x2 dx2 TU2 D2 a1 a2 a3 a4 a5 a6 a7 xa xb _ _ (ge.trans gm) (fun b o hb hb2 e => Heap.get?_push_of_some _ (kx b o hb hb2 e)) ?tx ?ty (Heap.get?_push_size _ rfl) (Heap.get?_push_of_some _ (k9 _ _ (N1.get (by k_mem)))) (Heap.get?_push_of_some _ (k9 _ _ (N1.get (by k_mem)))) (Heap.get?_push_of_some _ (k9 _ _ (N1.get (by k_mem)))) (Nat.le_trans l9 lm1) lm2 (Nat.le_trans l9 lm3) (Heap.lt_size (k9 _ _ (N1.get (a := x2) (by k_mem))))
  case tx => exact hO'.tab ((code55 X).keeps fun b o e => Heap.get?_push_of_some _ (k9 _ _ (F1.keep _ _ e))) (Heap.get?_push_of_some _ (k9 _ _ (N1.get (a := 51) (by k_mem))))
  case ty => exact hO2'.tab ((code264 X).keeps fun b o e => Heap.get?_push_of_some _ (k9 _ _ (F1.keep _ _ e))) (Heap.get?_push_of_some _ (k9 _ _ (N1.get (a := 262) (by k_mem))))
end
example : True := by w_top off; first | walk1 | trivial
section
/-- a call of a def with one cell, where no decoder stands -/
theorem enterCellD {prog : Program} {A : Around} {g : Heap} {Kf : Frag} {R : Result → Shared → Prop} {name qual : Str} {params : Arguments} {body : List Stmt} {scope : Scope} {dV kV doc pm cdv ct oc : Value} {an od : Option Addr} {osl : Array (Option Value)} {f : Addr} {args : Args} {binds : List (Str × Value)} {news : List (Addr × Obj)} {x : Str} {v : Value} {m0 : Str → Option Value}
    (hg : Kept g s.heap) (hsz : g.objs.size ≤ s.heap.objs.size) (X : Kf.In g) (T : Top p loose mean mg mb g)
    (N : ∀ p ∈ news, s.heap.get? p.1 = some p.2 ∧ g.get? p.1 = none)
    (ho : Kf.lookup f = some ⟨oc, od, .func (fnOf name qual params body scope dV kV doc pm an cdv ct), osl⟩) (hcd : codeIn Kf cdv qual = true) (hroom : A.depth < recursionLimit)
    (hbind : BindsTo s (fnOf name qual params body scope dV kV doc pm an cdv ct) args binds)
    (hkind : ∀ y ∈ binds, scope.names.lookup y.1 = some .local ∨ (scope.names.lookup y.1 = some .cell ∧ y.1 = x)) (hcf : ∀ n, cellsFrom n scope.names [] = [(x, n)])
    (hv : bindC (fun y => scope.names.lookup y) binds (fun _ => none) x = some v) (hm : bindL (fun y => scope.names.lookup y) binds (fun _ => none) = m0)
    (h : ∀ L' c h₁ o tk, o.data = .cell (some v) → Fr g L' h₁ m0 → News g L' h₁ ((c, o) :: news) → L' < c → s.heap.objs.size ≤ L' →
      wpC (model prog w) (A.deeper (envX qual scope L' f cdv [(x, c)])) (execs body (envX qual scope L' f cdv [(x, c)]))
        (fun fl s' => R (.ok (.ret (match fl with | .ret v => v | _ => .none))) s')
        (fun e s' => wpAny (model prog w) (A.deeper (envX qual scope L' f cdv [(x, c)])) (leaving (envX qual scope L' f cdv [(x, c)]) e) (fun _ s'' => R (.error e) s'') (fun e' s'' => R (.error e') s'') s')
        { s with heap := h₁, toks := tk })
    (hco : scope.isCoroutine = false) (hgen : scope.isGenerator = false) (hk : scope.kind = .function) : codeC (model prog w) A (.call (.ref f) args) R s := by
  have hfo := hg _ _ (X _ _ ho)
  have hcr := codeRec_of (X.keeps hg) hcd
  have hlim := T.nolimit.keeps hg
  refine codeC_of_tree ?_
  show wpC _ A.in1 (callAny (.ref f) args) _ _ s
  simp only [callAny]
  refine wpC_bindA (wpAny_load hfo ?_)
  obtain ⟨c, oc', vs, tq, hc, hoc, hdc, hq⟩ := hcr
  subst hc
  simp only [callFunction, hco, hgen]
  refine wpC_bindA (m := field (.ref c) 1) (wpAny_field hoc hdc hq ?_)
  refine wpC_bind (wpC_pure ?_)
  refine wpC_bindA (hbind _ _ _ _ ?_)
  refine wpC_bindA (wpAny_newFunctionEnv_cells hk (fun y hy => ?_) fun env' he s' y => ?_)
  · rcases hkind y hy with q | ⟨q, rfl⟩
    · exact .inl q
    · exact .inr ⟨q, by rw [hcf]; simp⟩
  · subst he
    refine wpC_bindA (wpAny_enterFrame (hlim.keeps y.toInCall.keep) hroom (wpC_pure ?_))
    obtain ⟨h₁, tk, rfl, _⟩ := y.done
    have hk₁ := y.toInCall.keep
    have hcells : (newEnv scope s.heap.objs.size mainGlobals (cellsFrom (s.heap.objs.size + 1) scope.names []) (qual ++ ".<locals>.") (some f) (.ref c) none builtinsNs).cells = [(x, s.heap.objs.size + 1)] := hcf _
    have hc0 := y.cell x (s.heap.objs.size + 1) (by rw [hcells]; simp)
    have hns := y.toInCall.ns
    obtain ⟨o, ho', hd'⟩ := hc0
    have e : envX qual scope s.heap.objs.size f (.ref c) [(x, s.heap.objs.size + 1)] = newEnv scope s.heap.objs.size mainGlobals (cellsFrom (s.heap.objs.size + 1) scope.names []) (qual ++ ".<locals>.") (some f) (.ref c) none builtinsNs := by
      rw [hcf]; rfl
    refine ⟨rfl, rfl, codeC_func (e ▸ h s.heap.objs.size (s.heap.objs.size + 1) h₁ o tk (by rw [hd']; congr 1) ⟨by rw [← hm]; exact hns, fun b o e => hk₁ b o (hg b o e), hsz⟩ (fun q hq => ?_) (Nat.lt_succ_self _) (Nat.le_refl _))⟩
    rcases List.mem_cons.mp hq with rfl | hq
    · exact ⟨ho', Nat.succ_ne_self _, noneOf (Nat.le_succ_of_le hsz)⟩
    · exact ⟨hk₁ _ _ (N q hq).1, Nat.ne_of_lt (Heap.lt_size (N q hq).1), (N q hq).2⟩
noncomputable abbrev bodK : List Stmt := takeF (x := bod457.getD 1 (.Pass ⟨0, 0, 0, 0⟩)) rfl
noncomputable abbrev tgtK : Expr := takeT (x := bod457.getD 1 (.Pass ⟨0, 0, 0, 0⟩)) rfl
noncomputable abbrev envK (L C : Addr) : Env := envX (Str.ofString "_law_keys") sco457 L 457 (.ref 456) [(Str.ofString "number", C)]
noncomputable abbrev mP457 (b1 b2 : Array UInt8) (t1 t2 t3 : Tok) (len : Int) : Str → Option Value := fun y =>
  if y = Str.ofString "length" then some (.int len t3) else if y = Str.ofString "mark" then some (.bytes b2 t2) else if y = Str.ofString "message" then some (.bytes b1 t1) else none
noncomputable abbrev mK (b1 b2 : Array UInt8) (t1 t2 t3 : Tok) (len : Int) (kv : Option Value) (last due : Value) : Str → Option Value := fun y =>
  if y = Str.ofString "k" then kv else if y = Str.ofString "last" then some last else if y = Str.ofString "due" then some due else mP457 b1 b2 t1 t2 t3 len y
theorem mK_set {b1 b2 : Array UInt8} {t1 t2 t3 : Tok} {len : Int} {kv : Option Value} {last due last' due' : Value} :
    (fun y => if y = Str.ofString "due" then some due' else if y = Str.ofString "last" then some last' else mK b1 b2 t1 t2 t3 len kv last due y) = mK b1 b2 t1 t2 t3 len kv last' due' := by
  funext y
  by_cases e1 : y = Str.ofString "due"
  · subst e1; rfl
  · by_cases e2 : y = Str.ofString "last"
    · subst e2; rfl
    · simp only [mK, if_neg e1, if_neg e2]
theorem mK_k {b1 b2 : Array UInt8} {t1 t2 t3 : Tok} {len : Int} {kv : Option Value} {last due v : Value} :
    (fun y => if y = Str.ofString "k" then some v else mK b1 b2 t1 t2 t3 len kv last due y) = mK b1 b2 t1 t2 t3 len (some v) last due := by
  funext y
  by_cases e1 : y = Str.ofString "k"
  · subst e1; rfl
  · simp only [mK, if_neg e1]
theorem newsTail {g h : Heap} {L : Addr} {q : Addr × Obj} {news : List (Addr × Obj)} (N : News g L h (q :: news)) : News g L h news := fun p hp => N p (List.mem_cons_of_mem _ hp)
/-- the table of the law's hash in a ledger: empty, or filled -/
noncomputable def TabL (ps : Array Value) (tl : List (Addr × Obj)) : Prop := (ps = #[] ∧ tl = []) ∨ ∃ c' o2 vs tv, ps = triple c' ∧ tl = [(c', o2)] ∧ c' ≠ 421 ∧ o2.data = .fields vs ∧ vs[1]? = some (.str qualH tv)
set_option maxHeartbeats 800000 in
theorem keys_turn {g h : Heap} {L I C D : Addr} {oI oC oD : Obj} {ps : Array Value} {tl : List (Addr × Obj)} {b1 b2 la du : Array UInt8} {t1 t2 t3 ta td tk0 : Tok} {len k : Int} {ks ls : List Int} {tk : Nat} {Q : Flow → Shared → Prop}
    (F : Fr g L h (mK b1 b2 t1 t2 t3 len (some (.int k tk0)) (.bytes la ta) (.bytes du td))) (N : News g L h ((I, oI) :: (421, tabObj ps) :: (C, oC) :: (D, oD) :: tl)) (hc : TabL ps tl) (hI : I ≠ 421) (hC : C ≠ 421) (hD : D ≠ 421)
    (hIt : ∀ p ∈ tl, p.1 ≠ I) (X : (K w.params).In g) (T : Top p loose mean mg mb g) (h1 : KBw.bInts b1 = ks) (h2 : KBw.bInts b2 = ls) (n1 : ks.length ≤ 30) (n2 : ls.length ≤ 30) (nl : la.size ≤ 32) (nd : du.size ≤ 64) (k0 : 0 ≤ k) (k1 : k ≤ 2) (hd : dp + 4 < recursionLimit) (hu : un + 60 < cLine)
    (go : ∀ h' tk' la' ta' du' td' c' o2 vs tv, Fr g L h' (mK b1 b2 t1 t2 t3 len (some (.int k tk0)) (.bytes la' ta') (.bytes du' td')) → News g L h' [(I, oI), (421, tabObj (triple c')), (C, oC), (D, oD), (c', o2)] → c' ≠ I → c' ≠ 421 → o2.data = .fields vs → vs[1]? = some (.str qualH tv) →
      KBw.bInts la' = hashL 32 ((ks.length : Int) :: (ks ++ (KBw.bInts la ++ ls ++ [k + 1]))) → KBw.bInts du' = KBw.bInts du ++ KBw.bInts la' → Q .next ⟨h', s.gens, s.drawn, tk', s.os⟩) :
    wpAny (model PySem.Challenge.pw_lh0033_01 w) ((Ar dp un gd outer).deeper (envK L C)) (execs bodK (envK L C)) Q E ⟨h, s.gens, s.drawn, tk, s.os⟩ := by
  obtain ⟨as, has, las⟩ : ∃ as, KBw.bInts la = as ∧ as.length ≤ 32 := ⟨_, rfl, by rw [KBw.ints_length]; exact nl⟩
  obtain ⟨ds, hds, lds⟩ : ∃ ds, KBw.bInts du = ds ∧ ds.length ≤ 64 := ⟨_, rfl, by rw [KBw.ints_length]; exact nd⟩
  delta bodK takeF envK sco457 takeS mK mP457
  k_steps
  unfold Halt
  rename Fr _ _ _ _ => F1
  rename News _ _ _ _ => N1
  have h421 := (N1 (421, tabObj ps) (by k_mem)).2.2
  have nL := (N1 (421, tabObj ps) (by k_mem)).2.1
  rename KBw.bInts _ = _ => ek
  have N2 := newsTail N1
  clear N1
  have res : ∀ bz : Array UInt8, KBw.bInts bz = hashL 32 ((ks.length : Int) :: (ks ++ (as ++ ls ++ List.map (fun c => ((c.toNat : Nat) : Int)) [(k + 1).toNat.toUInt8]))) → KBw.bInts bz = hashL 32 ((ks.length : Int) :: (ks ++ (KBw.bInts la ++ ls ++ [k + 1]))) := by
    intro bz e
    rw [e, oneOct (by omega) (by omega), has]
  rcases hc with ⟨rfl, rfl⟩ | ⟨c', o2, vs, tv, rfl, rfl, c1, c2, c3⟩
  · refine keyed_miss (s := ⟨_, _, _, _, _⟩) (X.keeps (keptHide2 F1.keep h421)) (T.keeps (keptHide2 F1.keep h421)) (N2.get (a := 421) (by k_mem)) h1 ek (by omega) ?len (by first | ktr_room | (dsimp only [Ar]; omega)) fun bz tz hz tkz kz xz ez => ?_
    case len => simp; omega
    obtain ⟨c', o2, vs, tv, lc, e1, e2, c1, c2, c3⟩ := xz
    dsimp only at lc kz
    obtain ⟨us, hus⟩ : ∃ us, us = KBw.bInts bz := ⟨_, rfl⟩
    have lu : us.length ≤ 72 := by rw [hus, ez]; exact hashL_le
    have lL := F1.ns.lt
    have aL := F1.above
    have F2 := frExt F1 h421 (Ne.symm nL) kz
    have cI : c' ≠ I := Nat.ne_of_gt (Nat.lt_of_lt_of_le (Heap.lt_size (N2 (I, oI) (by k_mem)).1) lc)
    have N3 := newsCh (pre := [_]) N2 e1 kz (by
      simp only [List.cons_append, List.nil_append, List.mem_cons, List.not_mem_nil, or_false, forall_eq_or_imp, forall_eq]
      exact ⟨hI, hC, hD⟩)
    simp only [List.cons_append, List.nil_append] at N3
    have N4 := newsCons e2 (Nat.lt_of_lt_of_le lL lc) (Nat.le_trans aL (Nat.le_trans (Nat.le_of_lt lL) lc)) N3
    clear F1 N2 N3
    have eu := hus.symm
    k_steps
    all_goals first | exact True.intro | skip
    rename Fr _ _ _ _ => F1
    rename News _ _ _ _ => N1
    refine go _ _ _ _ _ _ c' o2 vs tv (frEq F1 mK_set) (fun p hp => N1 p (by simp at hp ⊢; rcases hp with q | q | q | q | q <;> simp [q])) cI c1 c2 c3 (res _ ez) (by rw [KBw.ints_app rfl rfl])
  · refine keyed_hit (s := ⟨_, _, _, _, _⟩) (X.keeps (keptHide2 F1.keep h421)) (T.keeps (keptHide2 F1.keep h421)) (N2.get (a := 421) (by k_mem)) (N2.get (a := c') (by k_mem)) c1 c2 c3 h1 ek (by omega) ?len (by first | ktr_room | (dsimp only [Ar]; omega)) fun bz tz hz tkz kz ez => ?_
    case len => simp; omega
    obtain ⟨us, hus⟩ : ∃ us, us = KBw.bInts bz := ⟨_, rfl⟩
    have lu : us.length ≤ 72 := by rw [hus, ez]; exact hashL_le
    have F2 := frKept F1 kz
    have N4 := newsKept N2 kz
    clear F1 N2
    have eu := hus.symm
    k_steps
    all_goals first | exact True.intro | skip
    rename Fr _ _ _ _ => F1
    rename News _ _ _ _ => N1
    refine go _ _ _ _ _ _ c' o2 vs tv (frEq F1 mK_set) (fun p hp => N1 p (by simp at hp ⊢; rcases hp with q | q | q | q | q <;> simp [q])) (hIt _ (List.mem_singleton.mpr rfl)) c1 c2 c3 (res _ ez) (by rw [KBw.ints_app rfl rfl])
/-- the loop of _law_keys -/
theorem keys_loop {g : Heap} {L I C D : Addr} {oC oD : Obj} {b1 b2 : Array UInt8} {t1 t2 t3 : Tok} {len : Int} {ks ls : List Int} {R : Result → Shared → Prop} (m : Nat) :
    ∀ {h : Heap} {la du : Array UInt8} {ta td : Tok} {kv : Option Value} {ps : Array Value} {tl : List (Addr × Obj)} {tk : Nat} {k : Int} {s : Shared},
    Fr g L h (mK b1 b2 t1 t2 t3 len kv (.bytes la ta) (.bytes du td)) → News g L h ((I, rangeIt k (m : Int)) :: (421, tabObj ps) :: (C, oC) :: (D, oD) :: tl) → TabL ps tl → (0 < k → 1 ≤ tl.length) → I ≠ 421 → C ≠ 421 → C ≠ I → D ≠ 421 → D ≠ I → (∀ p ∈ tl, p.1 ≠ I) →
    (K w.params).In g → Top p loose mean mg mb g → KBw.bInts b1 = ks → KBw.bInts b2 = ls → ks.length ≤ 30 → ls.length ≤ 30 → la.size ≤ 32 → du.size ≤ 32 * k.toNat → 0 ≤ k → k + m ≤ 2 → dp + 4 < recursionLimit → un + 60 < cLine →
    (∀ h' tk' kv' la' ta' du' td' ps' tl', Fr g L h' (mK b1 b2 t1 t2 t3 len kv' (.bytes la' ta') (.bytes du' td')) → News g L h' ((421, tabObj ps') :: (C, oC) :: (D, oD) :: tl') → TabL ps' tl' → (0 < k + m → 1 ≤ tl'.length) → du'.size ≤ 64 → KBw.bInts du' = KBw.bInts du ++ turnsL ks ls m k (KBw.bInts la) → R (.ok .next) ⟨h', s.gens, s.drawn, tk', s.os⟩) →
    codeAny (model PySem.Challenge.pw_lh0033_01 w) ((Ar dp un gd outer).deeper (envK L C)) (.forLoop tgtK (.ref I) bodK [] (envK L C)) R ⟨h, s.gens, s.drawn, tk, s.os⟩ := by
  induction m with
  | zero =>
    intro h la du ta td kv ps tl tk k s F N hc hk hI hC hCI hD hDI hIt X T h1 h2 n1 n2 nl nd k0 k1 hd hu go
    refine codeA_forTurn ?_
    refine wpAny_pyNext_range_end (s := ⟨_, _, _, _, _⟩) rfl (N.get (by k_mem)) (by decide) fun h' e => ?_
    have hA := N _ (List.mem_cons_self ..)
    have F3 := frExt F hA.2.2 (Ne.symm hA.2.1) e
    have N3 := newsDrop (pre := []) N e (by
      intro p hp
      simp only [List.nil_append, List.mem_cons] at hp
      rcases hp with rfl | rfl | rfl | hp
      · exact Ne.symm hI
      · exact hCI
      · exact hDI
      · exact hIt p hp)
    refine wpAny_execs_nil (go _ _ _ _ _ _ _ _ _ F3 N3 hc (fun q => hk (by omega)) (by omega) ?hb)
    case hb => simp [turnsL]
  | succ m ih =>
    intro h la du ta td kv ps tl tk k s F N hc hk hI hC hCI hD hDI hIt X T h1 h2 n1 n2 nl nd k0 k1 hd hu go
    refine codeA_forTurn ?_
    refine wpAny_pyNext_range_item (s := ⟨_, _, _, _, _⟩) (N.get (by k_mem)) (by omega) fun h' e sb => ?_
    dsimp only
    have hA := N _ (List.mem_cons_self ..)
    have F3 := frExt F hA.2.2 (Ne.symm hA.2.1) sb.extBut
    have N3 := newsBut N e sb.extBut (by
      intro p hp
      simp only [List.mem_cons] at hp
      rcases hp with rfl | rfl | rfl | hp
      · exact Ne.symm hI
      · exact hCI
      · exact hDI
      · exact hIt p hp)
    delta tgtK takeT
    refine wpAny_assign_Name (storeX_L (s := ⟨_, _, _, _, _⟩) F3 N3 fun h4 F4 N4 => ?_)
    refine keys_turn (s := s) (frEq F4 mK_k) N4 hc hI hC hD hIt X T h1 h2 n1 n2 nl (by omega) k0 (by omega) hd hu fun h5 tk5 la5 ta5 du5 td5 c' o2 vs tv F5 N5 cI c1 c2 c3 hl5 hb5 => ?_
    dsimp only
    have hsl : la5.size = 32 := by rw [← KBw.ints_length, hl5]; exact hashL_len 32 _
    have hsz : du5.size = du.size + la5.size := by rw [← KBw.ints_length, hb5, List.length_append, KBw.ints_length, KBw.ints_length]
    rw [show ((m + 1 : Nat) : Int) - 1 = (m : Int) by omega] at N5
    refine ih (s := s) F5 N5 (.inr ⟨c', o2, vs, tv, rfl, rfl, c1, c2, c3⟩) (fun _ => Nat.le_refl _) hI hC hCI hD hDI (fun p hp => by rcases List.mem_singleton.mp hp with rfl; exact cI) X T h1 h2 n1 n2 (by omega) (by omega) (by omega) (by omega) hd hu fun h6 tk6 kv6 la6 ta6 du6 td6 ps6 tl6 F6 N6 hc6 hk6 hs6 hx6 => ?_
    refine go _ _ _ _ _ _ _ _ _ F6 N6 hc6 (fun _ => hk6 (by omega)) hs6 ?_
    rw [hx6, turnsL, hb5, hl5, List.append_assoc]
end
example : True := by w_top off; first | walk1 | trivial
section
noncomputable abbrev bodR : List Stmt := bod457.drop 3
theorem bInts_list {a b : Array UInt8} (h : KBw.bInts a = KBw.bInts b) : a.toList = b.toList := by
  refine List.map_inj_right (f := fun c : UInt8 => ((c.toNat : Nat) : Int)) (fun x y e => ?_) |>.mp h
  exact UInt8.toNat_inj.mp (Int.ofNat.inj e)
theorem bigOct5 {x : Int} : bigOct 5 x = [x / 4294967296 % 256, x / 16777216 % 256, x / 65536 % 256, x / 256 % 256, x / 1 % 256] := by
  rw [bigOct, KTBy.little_eq]
  rfl
theorem bigOct5_range {x : Int} : bigOct 5 x = List.map (fun k' : Int => (x.fdiv (256 ^ (4 - k').toNat)).fmod 256) (rangeKs 0 ((5 : Int) - 0).toNat) := by
  rw [bigOct5]
  show _ = [Int.fmod (x.fdiv 4294967296) 256, Int.fmod (x.fdiv 16777216) 256, Int.fmod (x.fdiv 65536) 256, Int.fmod (x.fdiv 256) 256, Int.fmod (x.fdiv 1) 256]
  simp only [Int.fdiv_eq_ediv_of_nonneg _ (by decide : (0 : Int) ≤ 4294967296), Int.fdiv_eq_ediv_of_nonneg _ (by decide : (0 : Int) ≤ 16777216), Int.fdiv_eq_ediv_of_nonneg _ (by decide : (0 : Int) ≤ 65536), Int.fdiv_eq_ediv_of_nonneg _ (by decide : (0 : Int) ≤ 256), Int.fdiv_eq_ediv_of_nonneg _ (by decide : (0 : Int) ≤ 1), Int.fmod_eq_emod_of_nonneg _ (by decide : (0 : Int) ≤ 256)]
theorem value_bigOct5 {x : Int} (h0 : 0 ≤ x) (h1 : x < 4294967296) : KFB.value (bigOct 5 x) = x := by
  rw [bigOct5, KFB.value]
  simp only [List.foldl_cons, List.foldl_nil]
  omega
theorem pow256_ne {n : Nat} : ((256 : Int) ^ n) ≠ 0 := Int.ne_of_gt (Int.pow_pos (by decide))
theorem pow256_log {k : Int} (h : 0 ≤ k) : ((256 : Int) ^ (4 - k).toNat).natAbs.log2 < 9000 := by
  obtain ⟨n, hn, hl⟩ : ∃ n, n = (4 - k).toNat ∧ n ≤ 4 := ⟨_, rfl, by omega⟩
  rw [← hn]
  rcases n with _ | _ | _ | _ | _ | n
  · decide +kernel
  · decide +kernel
  · decide +kernel
  · decide +kernel
  · decide +kernel
  · exact absurd hl (by simp)
theorem pow5 {k : Int} (h : k < 0 + ((5 - 0 : Int).toNat : Int)) : 0 ≤ 4 - k := by
  rw [show 0 + ((5 - 0 : Int).toNat : Int) = 5 from rfl] at h
  omega
theorem pow6 {k : Int} (h : 0 ≤ k) : 4 - k ≤ 1000000 := by omega
local macro_rules | `(tactic| walk_at "binaryOp Pow int int") => `(tactic| (k_here; (with_reducible refine pow_int_small ?kb1 ?kb2 ?kb3 ?_); (case kb1 => exact pow5 (by assumption)); (case kb2 => exact pow6 (by assumption)); (case kb3 => decide)))
local macro_rules | `(tactic| walk_at "binaryOp FloorDiv int int") => `(tactic| (k_here; (refine floordiv_int pow256_ne ?_ (Or.inl (PyProof.noPylong_of_log2 (pow256_log (by omega))))); (try dsimp only)))
set_option maxHeartbeats 400000 in
theorem keys_rest {g h : Heap} {L C : Addr} {oC o51 o421 : Obj} {b1 b2 la du : Array UInt8} {t1 t2 t3 t4 ta td : Tok} {len num : Int} {kv : Option Value} {ks ls : List Int} {tk : Nat} {gn : Array GenState} {Q : Flow → Shared → Prop}
    (F : Fr g L h (mK b1 b2 t1 t2 t3 len kv (.bytes la ta) (.bytes du td))) (N : News g L h [(421, o421), (C, oC), (51, o51)]) (hO : TabO o51) (hoC : oC.data = .cell (some (.int num t4)))
    (X : (K w.params).In g) (T : Top p loose mean mg mb g) (h1 : KBw.bInts b1 = ks) (h2 : KBw.bInts b2 = ls) (n1 : ks.length ≤ 30) (n2 : ls.length ≤ 30) (m0 : 0 ≤ num) (m1 : num < 4294967296) (hd : dp + 10 < recursionLimit) (hu : un + 200 < cLine)
    (go : ∀ (h' : Heap) (tk' : Nat) (g' : GensOf gn), Kept g h' → h'.get? 421 = some o421 → (∃ ps, h'.get? 51 = some (tabObj ps)) → Q (.ret (.bool true)) ⟨h', g'.1, s.drawn, tk', s.os⟩) :
    wpAny (model PySem.Challenge.pw_lh0033_01 w) ((Ar dp un gd outer).deeper (envK L C)) (execs bodR (envK L C)) Q E ⟨h, gn, s.drawn, tk, s.os⟩ := by
  delta bodR bod457 takeB envK sco457 takeS
  k_steps
  unfold Halt
  refine i2osp_spec (s := ⟨_, _, _, _, _⟩) (k := 5) (X.keeps F.keep) (T.keeps F.keep) m0 (by decide) (by omega) (by first | ktr_room | (dsimp only [Ar]; omega)) (by first | ktr_room | (dsimp only [Ar]; omega)) fun bi ti hi tki ki ei => ?_
  have F1 := frKept F ki
  have N1 := newsKept N ki
  clear F N
  obtain ⟨is, his⟩ : ∃ is, is = bigOct 5 num := ⟨_, rfl⟩
  have li : is.length = 5 := by rw [his, bigOct_length]
  rw [← his] at ei
  k_steps
  unfold Halt
  rename Fr _ _ _ _ => F1
  rename News _ _ _ _ => N1
  refine os2ip_spec (s := ⟨_, _, _, _, _⟩) (X.keeps F1.keep) (T.keeps F1.keep) ei (by omega) (by first | ktr_room | (dsimp only [Ar]; omega)) fun to ho tko ko => ?_
  have F2 := frKept F1 ko
  have N2 := newsKept N1 ko
  clear F1 N1
  have hv : KFB.value is = num := by rw [his]; exact value_bigOct5 m0 m1
  rw [hv]
  k_steps
  · exact absurd rfl (by assumption)
  unfold Halt
  rename Fr _ _ _ _ => F1
  rename News _ _ _ _ => N1
  refine i2osp_spec (s := ⟨_, _, _, _, _⟩) (k := 5) (X.keeps F1.keep) (T.keeps F1.keep) m0 (by decide) (by omega) (by first | ktr_room | (dsimp only [Ar]; omega)) (by first | ktr_room | (dsimp only [Ar]; omega)) fun bj tj hj tkj kj ej => ?_
  have F2 := frKept F1 kj
  have N2 := newsKept N1 kj
  clear F1 N1
  rw [← his] at ej
  k_steps
  · exfalso
    rename (_ != _) = true => hne
    rename KBa.In _ => hin
    have e := KBa.ints_make hin
    rw [bInts_list (ej.trans (his.trans (bigOct5_range.trans e.symm)))] at hne
    simp at hne
  unfold Halt
  rename Fr _ _ _ _ => F1
  rename News _ _ _ _ => N1
  have F2 := F1
  have N2 : News g L _ [(421, o421), (C, oC), (51, o51)] := newsTail N1
  clear F1 N1
  refine os2ip_spec (s := ⟨_, _, _, _, _⟩) (X.keeps F2.keep) (T.keeps F2.keep) h1 (by omega) (by first | ktr_room | (dsimp only [Ar]; omega)) fun to2 ho2 tko2 ko2 => ?_
  have F3 := frKept F2 ko2
  have N3 := newsKept N2 ko2
  clear F2 N2
  k_steps
  unfold Halt
  rename Fr _ _ _ _ => F1
  rename News _ _ _ _ => N1
  refine callFbPos (KFB.at_of N1 (by k_mem)) (by rw [← KBw.ints_length, h1]; omega) ?_
  rw [h1]
  (try dsimp only)
  k_steps
  · unfold Halt
    rename Fr _ _ _ _ => F1
    rename News _ _ _ _ => N1
    have n51 := (N1 (51, o51) (by k_mem)).2.2
    have nL51 := (N1 (51, o51) (by k_mem)).2.1
    refine xor_spec (s := ⟨_, _, _, _, _⟩) (X.keeps (keptHide2 F1.keep n51)) (T.keeps (keptHide2 F1.keep n51)) (hO.tab ((code55 X).keeps F1.keep) (N1.get (a := 51) (by k_mem))) (by rw [← KBw.ints_length, h1]; omega) (by first | ktr_room | (dsimp only [Ar]; omega)) (by first | ktr_room | (dsimp only [Ar]; omega)) fun bx tx hx tkx gx kx xx ex => ?_
    have F2 := frExt F1 n51 (Ne.symm nL51) kx
    have e421 := kx _ _ (by decide) (N1.get (a := 421) (by k_mem))
    obtain ⟨_, e51, ps51, rfl, _⟩ := xx.obj
    have N2 := newsNil F2
    clear F1 N1
    k_steps
    unfold Halt
    rename Fr _ _ _ _ => F1
    rename News _ _ _ _ => N1
    refine laid_spec (s := ⟨_, _, _, _, _⟩) (X.keeps F1.keep) (T.keeps F1.keep) (by rw [← KBw.ints_length, h1]; omega) (by first | ktr_room | (dsimp only [Ar]; omega)) (by first | ktr_room | (dsimp only [Ar]; omega)) fun bl tl hl tkl kl el => ?_
    have F2 := frKept F1 kl
    have N2 := newsNil F2
    clear F1 N1
    have e := bInts_list (ex.trans el.symm)
    k_steps
    rw [e, beq_self_eq_true]
    exact go _ _ _ (fun b o q => F2.keep _ _ q) (kl _ _ e421) ⟨ps51, kl _ _ e51⟩
  · exact absurd rfl (by assumption)
end
example : True := by w_top off; first | walk1 | trivial
section
local macro_rules | `(tactic| walk_at "exec For Name Call cons nil") => `(tactic| (k_here; refine halt ?_))
local macro_rules | `(tactic| walk_at "pyIter ref") => `(tactic| (k_here; refine halt ?_))
/-- ready for the call of a function, where no decoder stands -/
noncomputable def ReadyC (M : Model) (A : Around) (a : Addr) (vs : List Value) (Q E : Value → Shared → Prop) (s : Shared) : Prop := ∃ o fd, s.heap.get? a = some o ∧ o.data = .func fd ∧ wpC M A (call (.ref a) vs) Q E s
theorem callWithC_ready {M : Model} {A : Around} {E : Value → Shared → Prop} {s : Shared} {Q : Value → Shared → Prop} {env : Env} {pos : Pos} {a : Addr} {e : Expr} {rest : List Expr}
    (h : wpAny M A (spliced (backTo pos (starEach (e :: rest) env))) (fun vs s₁ => ReadyC M A a vs Q E s₁) E s)
    (he : starEach (e :: rest) env = (false, eval e env) :: starEach rest env := by rfl) (hplain : (backTo pos (starEach rest env)).any (·.1) = false := by rfl) (hn : (backTo pos (starEach rest env)).length ≤ 29 := by exact Nat.le_of_ble_eq_true rfl) : wpC M A (callWith pos (.ref a) [] (backTo pos (starEach (e :: rest) env)) []) Q E s := by
  rw [he] at h ⊢
  change wpAny M A (spliced ((false, eval e env) :: backTo pos (starEach rest env))) _ E s at h
  show wpC M A (callWith pos (.ref a) [] ((false, eval e env) :: backTo pos (starEach rest env)) []) Q E s
  generalize backTo pos (starEach rest env) = rest' at *
  unfold callWith
  refine wpC_bind (wpC_holding (wpC_mono (evalArgsC_plain (Q := fun x s₁ => x.kw = [] ∧ ReadyC M A a x.pos Q E s₁) (wpAny_mono h (fun _ _ h' => ⟨rfl, h'⟩) fun _ _ h' => h')) (fun x s₁ h₁ => wpC_bind (wpC_standAt ?_)) fun _ _ x => x))
  obtain ⟨hk, o, fd, e1, e2, h2⟩ := h₁
  simp only [List.any_cons, hplain, List.any_nil, Bool.or_false]
  refine wpC_bindA (m := keeperOf (.ref a)) ?_
  unfold keeperOf
  refine wpAny_bind (wpAny_load e1 ?_)
  rw [e2]
  refine wpAny_pure ?_
  have e : ¬ (((false, eval e env) :: rest').length + 2 * ([] : List (Option Str × Sem Value)).length > 30) := by simp; omega
  show wpC _ _ (if ((false, eval _ env) :: rest').length + 2 * ([] : List (Option Str × Sem Value)).length > 30 then _ else _) _ _ _
  rw [if_neg e, hk]
  exact tailC (wpC_keep h2)
theorem TabL.tab {g h : Heap} {L C D : Addr} {oC oD : Obj} {ps : Array Value} {tl : List (Addr × Obj)} (hc : TabL ps tl) (N : News g L h ((421, tabObj ps) :: (C, oC) :: (D, oD) :: tl)) : TabH h := by
  rcases hc with ⟨rfl, rfl⟩ | ⟨c', o2, vs, tv, rfl, rfl, c1, c2, c3⟩
  · exact .inl (N.get (by k_mem))
  · exact .inr ⟨c', o2, vs, tv, N.get (by k_mem), N.get (by k_mem), c1, c2, c3⟩
theorem mK_0 {b1 b2 : Array UInt8} {t1 t2 t3 : Tok} {len : Int} {last due : Value} :
    (fun y => if y = Str.ofString "last" then some last else if y = Str.ofString "due" then some due else mP457 b1 b2 t1 t2 t3 len y) = mK b1 b2 t1 t2 t3 len none last due := by
  funext y
  by_cases e1 : y = Str.ofString "k"
  · subst e1; rfl
  · simp only [mK, if_neg e1]
theorem mK_0' {b1 b2 : Array UInt8} {t1 t2 t3 : Tok} {len : Int} {last due : Value} :
    (fun y => if y = Str.ofString "due" then some due else if y = Str.ofString "last" then some last else mP457 b1 b2 t1 t2 t3 len y) = mK b1 b2 t1 t2 t3 len none last due := by
  funext y
  by_cases e1 : y = Str.ofString "k"
  · subst e1; rfl
  · by_cases e2 : y = Str.ofString "due"
    · subst e2; rfl
    · simp only [mK, if_neg e1, if_neg e2]
theorem ceil32' {len : Int} (l0 : 0 ≤ len) (l1 : len ≤ 40) : Int.fdiv (len + 31) 32 = -(Int.fdiv (-len) 32) ∧ 0 ≤ Int.fdiv (len + 31) 32 ∧ Int.fdiv (len + 31) 32 ≤ 2 ∧ (0 < len → 0 < Int.fdiv (len + 31) 32) := by
  rw [Int.fdiv_eq_ediv_of_nonneg _ (by decide : (0 : Int) ≤ 32), Int.fdiv_eq_ediv_of_nonneg _ (by decide : (0 : Int) ≤ 32)]
  omega
set_option maxHeartbeats 400000 in
theorem keys_spec {b1 b2 : Array UInt8} {ks ls : List Int} {t1 t2 t3 t4 : Tok} {len num : Int}
    (X : (K w.params).In (hideAll s.heap [421, 51])) (T : Top p loose mean mg mb (hideAll s.heap [421, 51])) (ho : s.heap.get? 421 = some (tabObj #[])) (hT : TabX 55 51 s.heap)
    (h1 : KBw.bInts b1 = ks) (h2 : KBw.bInts b2 = ls) (n1 : ks.length ≤ 30) (n2 : ls.length ≤ 30) (l0 : 0 ≤ len) (l1 : len ≤ 40) (m0 : 0 ≤ num) (m1 : num < 4294967296) (hd : dp + 10 < recursionLimit) (hu : un + 200 < cLine)
    (hret : ∀ (h' : Heap) (tk' : Nat) (g' : GensOf s.gens), (∀ b o, b ≠ 421 → b ≠ 51 → s.heap.get? b = some o → h'.get? b = some o) → (∃ ps, h'.get? 421 = some (tabObj ps)) → (∃ ps, h'.get? 51 = some (tabObj ps)) → Q (.bool true) ⟨h', g'.1, s.drawn, tk', s.os⟩) :
    wpC (model PySem.Challenge.pw_lh0033_01 w) (Ar dp un (some []) outer) (call (.ref 457) [.bytes b1 t1, .bytes b2 t2, .int len t3, .int num t4]) Q E s := by
  obtain ⟨o51, ho51, hO⟩ := hT.obj
  have N0 : ∀ p ∈ [((421 : Addr), tabObj #[]), (51, o51)], s.heap.get? p.1 = some p.2 ∧ (hideAll s.heap [421, 51]).get? p.1 = none := by
    simp only [List.mem_cons, List.not_mem_nil, or_false, forall_eq_or_imp, forall_eq]
    exact ⟨⟨ho, hideAll_none _ (by simp)⟩, ⟨ho51, hideAll_none _ (by simp)⟩⟩
  refine wpC_call ?_
  refine' enterCellD (x := Str.ofString "number") (v := .int num t4) (m0 := mP457 b1 b2 t1 t2 t3 len) (binds := [(Str.ofString "message", .bytes b1 t1), (Str.ofString "mark", .bytes b2 t2), (Str.ofString "length", .int len t3), (Str.ofString "number", .int num t4)]) (g := hideAll s.heap [421, 51]) (fun b o e => of_hideAll _ e) (Nat.le_of_eq (hideAll_size _ _)) X T N0 ?k6 ?k7 ?k8 ?k9 ?kk ?kcf ?kv ?km ?_ ?c2 ?c3 ?c4
  case k6 => k_is
  case k7 => k_is
  case k8 => first | ktr_room | (dsimp only [Ar]; omega)
  case k9 => exact BindsTo.of_eq rfl
  case kk =>
    intro y hy
    simp only [List.mem_cons, List.not_mem_nil, or_false] at hy
    rcases hy with rfl | rfl | rfl | rfl
    · exact .inl rfl
    · exact .inl rfl
    · exact .inl rfl
    · exact .inr ⟨rfl, rfl⟩
  case kcf => intro n; rfl
  case kv => rfl
  case km => rfl
  case c2 => exact rfl
  case c3 => exact rfl
  case c4 => exact rfl
  intro L' C h' oC tk' hoC F' N' lC lL
  (try dsimp only)
  (try k_fold)
  refine wpC_step ?_
  k_steps
  all_goals first | exact True.intro | skip
  refine wpC_step ?_
  refine wpAny_For ?_
  k_steps
  unfold Halt
  rename Fr _ _ _ _ => F1
  rename News _ _ _ _ => N1
  rename IsRange _ _ _ _ _ _ _ _ => R1
  have hcl := ceil32' l0 l1
  refine wpAny_pyIter_range (s := ⟨_, _, _, _, _⟩) R1 (small_one (by decide) (by decide) (by omega) (by omega)) ?_
  rw [rangeSize_nat, Int.sub_zero]
  obtain ⟨hcn, n0, n2', npos⟩ := hcl
  generalize Int.fdiv (len + 31) 32 = n at *
  (try dsimp only)
  refine codeA_push rfl fun h4 hk4 ht4 hs4 => ?_
  have F4 := frKept F1 hk4
  have N4 := newsTop F1 N1 hk4 ht4
  have hlt := fun p hp => Nat.ne_of_lt (Heap.lt_size (N1 p hp).1)
  have hC4 : C ≠ 421 := fun e => by
    have q := (N1 (421, tabObj #[]) (by k_mem)).1
    have q2 := N1.get (a := C) (o := oC) (by k_mem)
    rw [e, q] at q2
    cases q2
    cases hoC
  clear F1 N1 R1
  refine keys_loop (s := s) (k := 0) n.toNat (frEq F4 mK_0) (tl := []) (ps := #[]) (D := 51) (oD := o51) (C := C) (oC := oC) (fun p hp => N4 p (by
    rcases List.mem_cons.mp hp with q | hp
    · exact List.mem_cons.mpr (.inl q)
    · simp only [List.mem_cons, List.not_mem_nil, or_false] at hp ⊢
      rcases hp with q | q | q <;> simp [q])) (.inl ⟨rfl, rfl⟩) (fun q => absurd q (by decide)) (Ne.symm (hlt (421, tabObj #[]) (by k_mem))) hC4 (hlt (C, oC) (by k_mem)) (by decide) (hlt (51, o51) (by k_mem)) (fun _ q => by cases q) X T h1 h2 n1 n2 (by decide) (by decide) (by decide) (by omega) (by first | ktr_room | (dsimp only [Ar]; omega)) (by first | ktr_room | (dsimp only [Ar]; omega)) fun h5 tk5 kv5 la ta du td ps tl F5 N5 hc5 hk5 hs5 hd5 => ?_
  (try dsimp only)
  refine ⟨rfl, ?_⟩
  obtain ⟨c', o2, vs, tv, hit⟩ : ∃ c' o2 vs tv, 0 < len → ps = triple c' ∧ h5.get? c' = some o2 ∧ c' ≠ 421 ∧ o2.data = .fields vs ∧ vs[1]? = some (.str qualH tv) := by
    rcases hc5 with ⟨_, q2⟩ | ⟨c', o2, vs, tv, rfl, rfl, c1, c2, c3⟩
    · refine ⟨0, o51, #[], t3, fun q => ?_⟩
      have := hk5 (by have := npos q; omega)
      rw [q2] at this
      cases this
    · exact ⟨c', o2, vs, tv, fun _ => ⟨rfl, N5.get (by k_mem), c1, c2, c3⟩⟩
  refine wpC_execs_cons (wpC_If (wpC_isTrue_Or2 (wpC_isTrue_Compare1 (wpC_Call_Name ?_))))
  k_steps
  refine wpC_callWith_type1 (wpC_Call_Name ?_)
  k_steps
  refine callWithC_ready ?_
  k_steps
  rename Fr _ _ _ _ => F1
  rename News _ _ _ _ => N1
  refine ⟨_, _, X.keeps F1.keep 35 _ rfl, rfl, ?_⟩
  have h421 := (N1 (421, tabObj ps) (by k_mem)).2.2
  refine hkdfE_spec (s := ⟨_, _, _, _, _⟩) (X.keeps (keptHide2 F1.keep h421)) (T.keeps (keptHide2 F1.keep h421)) (N1.get (by k_mem)) hit h1 h2 n1 n2 l0 l1 (by first | ktr_room | (dsimp only [Ar]; omega)) fun a bo h6 tk6 k6 ea eb => ?_
  have F2 := frKept F1 k6
  have N2 := newsKept N1 k6
  clear F1 N1
  have lb : bo.size ≤ 40 := by rw [← KBw.ints_length, eb, List.length_take]; omega
  (try dsimp only)
  refine wpC_of (bytesOfBa ea (by rw [sizeLine_eq]; omega) fun tb kb => ?_)
  obtain ⟨ds, hds, lds⟩ : ∃ ds, KBw.bInts du = ds ∧ ds.length ≤ 64 := ⟨_, rfl, by rw [KBw.ints_length]; exact hs5⟩
  (try dsimp only)
  k_steps
  · exfalso
    rename (_ != _) = true => hne
    rename KBw.bInts (KBy.picked _ _ _) = _ => ek
    have e : KBw.bInts bo = KBw.bInts (KBy.picked du none (some len)) := by
      rw [eb, ek, take_clip l0, ← hds, hd5, hcn]
      rfl
    rw [bInts_list e] at hne
    simp at hne
  unfold Halt
  rename Fr _ _ _ _ => F1
  rename News _ _ _ _ => N1
  have xs := hc5.tab N1
  refine extract_spec (s := ⟨_, _, _, _, _⟩) (X.keeps (keptHide2 F1.keep h421)) (T.keeps (keptHide2 F1.keep h421)) xs h2 h1 (by omega) (by omega) (by first | ktr_room | (dsimp only [Ar]; omega)) fun be te h7 tk7 k7 x7 e7 => ?_
  obtain ⟨ps7, p7⟩ := x7.obj
  have nL421 := (N1 (421, tabObj ps) (by k_mem)).2.1
  have F2 := frExt F1 h421 (Ne.symm nL421) k7
  have N2 : News (hideAll s.heap [421, 51]) L' h7 [(421, tabObj ps7), (C, oC), (51, o51)] := newsCh (pre := []) (o := tabObj ps) (post := [(C, oC), (51, o51)]) (fun p hp => N1 p (by simp at hp ⊢; rcases hp with q | q | q <;> simp [q])) p7 k7 (by
    simp only [List.cons_append, List.nil_append, List.mem_cons, List.not_mem_nil, or_false, forall_eq_or_imp, forall_eq]
    exact ⟨hC4, by decide⟩)
  clear F1 N1
  (try dsimp only)
  k_steps
  unfold Halt
  rename Fr _ _ _ _ => F1
  rename News _ _ _ _ => N1
  refine keyed_spec (s := ⟨_, _, _, _, _⟩) (X.keeps (keptHide2 F1.keep h421)) (T.keeps (keptHide2 F1.keep h421)) x7 h2 h1 (by omega) (by omega) (by first | ktr_room | (dsimp only [Ar]; omega)) fun bf tf h8 tk8 k8 x8 e8 => ?_
  obtain ⟨ps8, p8⟩ := x8.obj
  have F3 := frExt F1 h421 (Ne.symm nL421) k8
  have N3 : News (hideAll s.heap [421, 51]) L' h8 [(421, tabObj ps8), (C, oC), (51, o51)] := newsCh (pre := []) N1 p8 k8 (by
    simp only [List.nil_append, List.mem_cons, List.not_mem_nil, or_false, forall_eq_or_imp, forall_eq]
    exact ⟨hC4, by decide⟩)
  clear F1 N1
  have eq := bInts_list (e7.trans e8.symm)
  (try dsimp only)
  k_steps
  · exfalso
    rename (_ != _) = true => hne
    rw [eq] at hne
    simp at hne
  refine wpC_execs_nil ?_
  refine wpC_of (keys_rest (s := s) F3 N3 hO hoC X T h1 h2 n1 n2 m0 m1 (by first | ktr_room | (dsimp only [Ar]; omega)) (by first | ktr_room | (dsimp only [Ar]; omega)) fun h9 tk9 g9 k9 a9 b9 => ?_)
  exact hret h9 tk9 g9 (fun b o q1 q2 e => k9 _ _ (hideAll_get _ e (by simp [q1, q2]))) ⟨_, a9⟩ b9
end
example : True := by w_top off; first | walk1 | trivial
section
local macro_rules | `(tactic| walk_at "eval Call Name") => `(tactic| (k_here; (with_reducible show wpAny _ _ (eval (Expr.Call (Expr.Name _ _) _ [] _) _) _ _ _); with_unfolding_all refine Call_ ?_))
noncomputable abbrev envL (L : Addr) : Env := envOf (Str.ofString "law") sco462 L 462 (.ref 461)
noncomputable abbrev bodL : List Stmt := bod462.drop 4
noncomputable abbrev mW (A : Addr) (bm bk : Array UInt8) (D B kd wy : Int) (t1 t2 t3 t4 t5 t6 : Tok) : Str → Option Value := fun y =>
  if y = Str.ofString "mark" then some (.bytes bk t1) else if y = Str.ofString "kind" then some (.int kd t2) else if y = Str.ofString "way" then some (.int wy t3) else if y = Str.ofString "message" then some (.bytes bm t4) else
  if y = Str.ofString "digits" then some (.int D t5) else if y = Str.ofString "block" then some (.int B t6) else if y = Str.ofString "script" then some (.ref A) else none
noncomputable abbrev mW0 (A : Addr) : Str → Option Value := fun y => if y = Str.ofString "script" then some (.ref A) else none
theorem mW0_is {A : Addr} {l : List (Str × Value)} (hl : l = [(Str.ofString "script", .ref A)]) : (fun y => List.lookup y l) = mW0 A := by
  funext y
  subst hl
  simp only [mW0, lookup_if, List.lookup_nil]
theorem isListKept {h h' : Heap} {l : Addr} {items : Array Value} (hl : h.IsList l items) (k : Kept h h') : h'.IsList l items :=
  let ⟨o, ho, r⟩ := hl
  ⟨o, k _ _ ho, r⟩
set_option maxHeartbeats 400000 in
theorem law_open {A : Addr} {vs : List Value} {ns : List Int} {o51 o262 : Obj}
    (X : (K w.params).In (hideAll s.heap [421, 51, 262])) (T : Top p loose mean mg mb (hideAll s.heap [421, 51, 262])) (h421 : s.heap.get? 421 = some (tabObj #[])) (h51 : s.heap.get? 51 = some o51) (h262 : s.heap.get? 262 = some o262)
    (hl : (hideAll s.heap [421, 51, 262]).IsList A vs.toArray) (hi : IntsAre vs ns) (hlen : ns.length < 2 ^ 62) (hd : dp + 20 < recursionLimit) (hu : un + 400 < cLine)
    (go : ∀ (L : Addr) (h' : Heap) (bm bk : Array UInt8) (t1 t2 t3 t4 t5 t6 : Tok) (tk' : Nat), Fr (hideAll s.heap [421, 51, 262]) L h' (mW A bm bk (1 + Int.fmod (lawAt ns 0) 8) (Int.fmod (lawAt ns 1) 9) (Int.fmod (lawAt ns 3) 9) (Int.fmod (lawAt ns 7) 4) t1 t2 t3 t4 t5 t6) →
      News (hideAll s.heap [421, 51, 262]) L h' [(421, tabObj #[]), (51, o51), (262, o262)] → KBw.bInts bm = octL (lawAt ns 5) (Int.fmod (lawAt ns 2) 9).toNat → KBw.bInts bk = octL (lawAt ns 6) (Int.fmod (Int.fmod (lawAt ns 3) 9) 7).toNat → s.heap.objs.size ≤ L →
      wpC (model PySem.Challenge.pw_lh0033_01 w) ((Ar dp un (some []) []).deeper (envL L)) (execs bodL (envL L)) (fun fl s' => Q (match fl with | .ret v => v | _ => .none) s') (fun e s' => wpAny (model PySem.Challenge.pw_lh0033_01 w) ((Ar dp un (some []) []).deeper (envL L)) (leaving (envL L) e) (fun x s'' => E e s'') (fun e' s'' => E e' s'') s') ⟨h', s.gens, s.drawn, tk', s.os⟩) :
    wpC (model PySem.Challenge.pw_lh0033_01 w) (Ar dp un (some []) []) (call (.ref 462) [.ref A]) Q E s := by
  have N0 : ∀ p ∈ [((421 : Addr), tabObj #[]), (51, o51), (262, o262)], s.heap.get? p.1 = some p.2 ∧ (hideAll s.heap [421, 51, 262]).get? p.1 = none := by
    simp only [List.mem_cons, List.not_mem_nil, or_false, forall_eq_or_imp, forall_eq]
    exact ⟨⟨h421, hideAll_none _ (by simp)⟩, ⟨h51, hideAll_none _ (by simp)⟩, ⟨h262, hideAll_none _ (by simp)⟩⟩
  refine wpC_call ?_
  refine' enterD (g := hideAll s.heap [421, 51, 262]) (fun b o e => of_hideAll _ e) (hideAll_size _ _) X T N0 ?k6 ?k7 ?k8 ?k9 ?kB ?_ ?c2 ?c3 ?c4 ?c5
  case k6 => k_is
  case k7 => k_is
  case k8 => first | ktr_room | (dsimp only [Ar]; omega)
  case k9 => exact BindsTo.of_eq rfl
  case kB => exact locs rfl
  case c2 => exact rfl
  case c3 => exact rfl
  case c4 => exact rfl
  case c5 => decide
  intro L' h' tk' F' N'
  have F2 := frEq F' (mW0_is (by rfl))
  clear F'
  (try dsimp only)
  refine wpC_step ?_
  k_steps
  (unfold Halt; (rename Fr _ _ _ _ => F1); (rename News _ _ _ _ => N1); refine lawAt_spec (s := ⟨_, _, _, _, _⟩) (X.keeps F1.keep) (T.keeps F1.keep) (isListKept hl F1.keep) hi hlen (by decide) (by decide) (by first | ktr_room | (dsimp only [Ar]; omega)) (by first | ktr_room | (dsimp only [Ar]; omega)) ?_; intro t1' h1' tk1' k1'; have F2 := frKept F1 k1'; have N2 := newsKept N1 k1'; clear F1 N1)
  k_steps
  (unfold Halt; (rename Fr _ _ _ _ => F1); (rename News _ _ _ _ => N1); refine lawAt_spec (s := ⟨_, _, _, _, _⟩) (X.keeps F1.keep) (T.keeps F1.keep) (isListKept hl F1.keep) hi hlen (by decide) (by decide) (by first | ktr_room | (dsimp only [Ar]; omega)) (by first | ktr_room | (dsimp only [Ar]; omega)) ?_; intro t1' h1' tk1' k1'; have F2 := frKept F1 k1'; have N2 := newsKept N1 k1'; clear F1 N1)
  k_steps
  all_goals first | exact True.intro | skip
  refine wpC_step ?_
  k_steps
  (unfold Halt; (rename Fr _ _ _ _ => F1); (rename News _ _ _ _ => N1); refine lawAt_spec (s := ⟨_, _, _, _, _⟩) (X.keeps F1.keep) (T.keeps F1.keep) (isListKept hl F1.keep) hi hlen (by decide) (by decide) (by first | ktr_room | (dsimp only [Ar]; omega)) (by first | ktr_room | (dsimp only [Ar]; omega)) ?_; intro t1' h1' tk1' k1'; have F2 := frKept F1 k1'; have N2 := newsKept N1 k1'; clear F1 N1)
  k_steps
  (unfold Halt; (rename Fr _ _ _ _ => F1); (rename News _ _ _ _ => N1); refine lawAt_spec (s := ⟨_, _, _, _, _⟩) (X.keeps F1.keep) (T.keeps F1.keep) (isListKept hl F1.keep) hi hlen (by decide) (by decide) (by first | ktr_room | (dsimp only [Ar]; omega)) (by first | ktr_room | (dsimp only [Ar]; omega)) ?_; intro t1' h1' tk1' k1'; have F2 := frKept F1 k1'; have N2 := newsKept N1 k1'; clear F1 N1)
  k_steps
  (unfold Halt; (rename Fr _ _ _ _ => F1); (rename News _ _ _ _ => N1); refine octets_spec (s := ⟨_, _, _, _, _⟩) (X.keeps F1.keep) (T.keeps F1.keep) (fmod_lo _ (by decide)) (Int.le_trans (Int.le_of_lt (fmod_hi _ (by decide))) (by decide)) (by first | ktr_room | (dsimp only [Ar]; omega)) ?_; intro b1' t1' h1' tk1' k1' eb1'; have F2 := frKept F1 k1'; have N2 := newsKept N1 k1'; clear F1 N1)
  rename KBw.bInts _ = _ => em
  k_steps
  all_goals first | exact True.intro | skip
  refine wpC_step ?_
  k_steps
  (unfold Halt; (rename Fr _ _ _ _ => F1); (rename News _ _ _ _ => N1); refine lawAt_spec (s := ⟨_, _, _, _, _⟩) (X.keeps F1.keep) (T.keeps F1.keep) (isListKept hl F1.keep) hi hlen (by decide) (by decide) (by first | ktr_room | (dsimp only [Ar]; omega)) (by first | ktr_room | (dsimp only [Ar]; omega)) ?_; intro t1' h1' tk1' k1'; have F2 := frKept F1 k1'; have N2 := newsKept N1 k1'; clear F1 N1)
  k_steps
  (unfold Halt; (rename Fr _ _ _ _ => F1); (rename News _ _ _ _ => N1); refine lawAt_spec (s := ⟨_, _, _, _, _⟩) (X.keeps F1.keep) (T.keeps F1.keep) (isListKept hl F1.keep) hi hlen (by decide) (by decide) (by first | ktr_room | (dsimp only [Ar]; omega)) (by first | ktr_room | (dsimp only [Ar]; omega)) ?_; intro t1' h1' tk1' k1'; have F2 := frKept F1 k1'; have N2 := newsKept N1 k1'; clear F1 N1)
  k_steps
  all_goals first | exact True.intro | skip
  refine wpC_step ?_
  k_steps
  (unfold Halt; (rename Fr _ _ _ _ => F1); (rename News _ _ _ _ => N1); refine lawAt_spec (s := ⟨_, _, _, _, _⟩) (X.keeps F1.keep) (T.keeps F1.keep) (isListKept hl F1.keep) hi hlen (by decide) (by decide) (by first | ktr_room | (dsimp only [Ar]; omega)) (by first | ktr_room | (dsimp only [Ar]; omega)) ?_; intro t1' h1' tk1' k1'; have F2 := frKept F1 k1'; have N2 := newsKept N1 k1'; clear F1 N1)
  k_steps
  (unfold Halt; (rename Fr _ _ _ _ => F1); (rename News _ _ _ _ => N1); refine octets_spec (s := ⟨_, _, _, _, _⟩) (X.keeps F1.keep) (T.keeps F1.keep) (fmod_lo _ (by decide)) (Int.le_trans (Int.le_of_lt (fmod_hi _ (by decide))) (by decide)) (by first | ktr_room | (dsimp only [Ar]; omega)) ?_; intro b1' t1' h1' tk1' k1' eb1'; have F2 := frKept F1 k1'; have N2 := newsKept N1 k1'; clear F1 N1)
  k_steps
  all_goals first | exact True.intro | skip
  rename Fr _ _ _ _ => F1
  rename News _ _ _ _ => N1
  rename KBw.bInts _ = octL _ (Int.fmod (Int.fmod _ _) _).toNat => ek
  have ab := F1.above
  rw [hideAll_size] at ab
  exact go _ _ _ _ _ _ _ _ _ _ _ F1 (fun p hp => N1 p (by simp only [List.mem_cons, List.not_mem_nil, or_false] at hp ⊢; rcases hp with q | q | q <;> simp [q])) em ek ab
end
example : True := by w_top off; first | walk1 | trivial
section
local macro_rules | `(tactic| walk_at "callWith ref") => `(tactic| (k_here; k_dflt (refine' callWith_F ?k1 ?_; (case k1 => exact FnAt.of (by k_asm) (by k_mem)); k_whole)))
noncomputable abbrev takeI {x : Stmt} {t : Expr} {b o : List Stmt} {p : Pos} (_ : x = .If t b o p) : List Stmt := b
noncomputable abbrev bodW0 : List Stmt := takeI (x := bod462.getD 4 (.Pass ⟨0, 0, 0, 0⟩)) rfl
noncomputable abbrev bodW0e : List Stmt := bodW0.drop 3
noncomputable abbrev mS (A : Addr) (bm bk : Array UInt8) (D B kd wy S : Int) (t1 t2 t3 t4 t5 t6 t7 : Tok) : Str → Option Value := fun y =>
  if y = Str.ofString "size" then some (.int S t7) else mW A bm bk D B kd wy t1 t2 t3 t4 t5 t6 y
/-- the three tables of codes at the end -/
noncomputable def EndT (h : Heap) : Prop := (∃ ps, h.get? 421 = some (tabObj ps)) ∧ (∃ ps, h.get? 51 = some (tabObj ps)) ∧ (∃ ps, h.get? 262 = some (tabObj ps))
theorem endT {h : Heap} {ps : Array Value} {o51 o262 : Obj} (a : h.get? 421 = some (tabObj ps)) (b : h.get? 51 = some o51) (hO : TabO o51) (c : h.get? 262 = some o262) (hO2 : TabO o262) : EndT h := by
  obtain ⟨p1, rfl, _⟩ := hO
  obtain ⟨p2, rfl, _⟩ := hO2
  exact ⟨⟨_, a⟩, ⟨_, b⟩, ⟨_, c⟩⟩
theorem newsHideL {g h h5 : Heap} {L : Addr} {news : List (Addr × Obj)} (N : News g L h news) (k : Kept (h.hide L) h5) : News g L h5 news :=
  fun p hp => ⟨k _ _ ((Heap.hide_ne _ (N p hp).2.1).trans (N p hp).1), (N p hp).2⟩
/-- the hash just made, where other objects are hidden -/
theorem hashHide {h : Heap} {f cc c' : Addr} {o1 o2 : Obj} {vs : Array Value} {t t2 : Tok} {ctv doc pm : Value} {d : Int} {as : List Addr} (e1 : h.get? f = some (hObj cc ctv doc pm c')) (e2 : h.get? cc = some o1) (e3 : o1.data = .cell (some (.int d t))) (e4 : h.get? c' = some o2) (e5 : o2.data = .fields vs) (e6 : vs[1]? = some (.str qualH t2))
    (n1 : f ∉ as) (n2 : cc ∉ as) (n3 : c' ∉ as) : HashAt (hideAll h as) f d :=
  ⟨cc, o1, t, c', ctv, doc, pm, hideAll_get as e1 n1, hideAll_get as e2 n2, e3, ⟨c', o2, vs, t2, rfl, hideAll_get as e4 n3, e5, e6⟩⟩
set_option maxHeartbeats 400000 in
theorem way0_ok {A : Addr} {g h : Heap} {L : Addr} {o51 o262 : Obj} {bm bk : Array UInt8} {ms ks : List Int} {D B kd wy S : Int} {t1 t2 t3 t4 t5 t6 t7 : Tok} {tk : Nat} {gn : Array GenState} {Q : Flow → Shared → Prop}
    (F : Fr g L h (mS A bm bk D B kd wy S t1 t2 t3 t4 t5 t6 t7)) (N : News g L h [(421, tabObj #[]), (51, o51), (262, o262)]) (hO : TabO o51) (hO2 : TabO o262) (hL : 421 < L) (X : (K w.params).In g) (T : Top p loose mean mg mb g) (h1 : KBw.bInts bm = ms) (h2 : KBw.bInts bk = ks)
    (n1 : ms.length ≤ 8) (n2 : ks.length ≤ 255) (d0 : 1 ≤ D) (d1 : D ≤ 8) (b0 : 0 ≤ B) (b1 : B ≤ 8) (z0 : 0 ≤ S) (z1 : S ≤ 3 * D) (hd : dp + 20 < recursionLimit) (hu : un + 400 < cLine)
    (go : ∀ (h' : Heap) (tk' : Nat) (g' : GensOf gn), Kept g h' → EndT h' → Q (.ret (.bool true)) ⟨h', g'.1, s.drawn, tk', s.os⟩) :
    wpAny (model PySem.Challenge.pw_lh0033_01 w) ((Ar dp un gd outer).deeper (envL L)) (execs bodW0e (envL L)) Q E ⟨h, gn, s.drawn, tk, s.os⟩ := by
  delta bodW0e bodW0 takeI bod462 takeB envL sco462 takeS mS
  k_steps
  unfold Halt
  have h421 := (N (421, tabObj #[]) (by k_mem)).2.2
  have h51 := (N (51, o51) (by k_mem)).2.2
  refine law_hash_miss (s := ⟨_, _, _, _, _⟩) (X.keeps (keptHide2 F.keep h421)) (T.keeps (keptHide2 F.keep h421)) (N.get (a := 421) (by k_mem)) (by first | ktr_room | (dsimp only [Ar]; omega)) fun f cc c' o1 o2 vs t t2 ctv doc pm h3 tk3 k3 e1 e2 e3 e4 e5 e6 e7 l1 l2 l3 => ?_
  dsimp only at l1 k3
  have lL := F.ns.lt
  have aL := F.above
  have F2 := frExt F h421 (Nat.ne_of_gt hL) k3
  have N2 := newsCh (pre := []) N e1 k3 (by
    simp only [List.nil_append, List.mem_cons, List.not_mem_nil, or_false, forall_eq_or_imp, forall_eq]
    exact ⟨by decide, by decide⟩)
  have Lcc : L < cc := Nat.lt_of_lt_of_le lL l1
  have Lc' : L < c' := Nat.lt_trans Lcc l2
  have Lf : L < f := Nat.lt_trans Lc' l3
  have N3 := newsCons e2 Lf (Nat.le_trans aL (Nat.le_of_lt Lf)) (newsCons e3 Lcc (Nat.le_trans aL (Nat.le_of_lt Lcc)) (newsCons e5 Lc' (Nat.le_trans aL (Nat.le_of_lt Lc')) N2))
  simp only [List.nil_append] at N3
  clear F N N2
  (try dsimp only)
  k_steps
  unfold Halt
  rename Fr _ _ _ _ => F1
  rename News _ _ _ _ => N1
  have nf : f ≠ 51 := Nat.ne_of_gt (Nat.lt_trans (by decide : 51 < 421) (Nat.lt_trans hL Lf))
  have ncc : cc ≠ 51 := Nat.ne_of_gt (Nat.lt_trans (by decide : 51 < 421) (Nat.lt_trans hL Lcc))
  have nc' : c' ≠ 51 := Nat.ne_of_gt (Nat.lt_trans (by decide : 51 < 421) (Nat.lt_trans hL Lc'))
  have nL51 : L ≠ 51 := Nat.ne_of_gt (Nat.lt_trans (by decide : 51 < 421) hL)
  refine told_spec (s := ⟨_, _, _, _, _⟩) (X.keeps (keptHide2 F1.keep h51)) (T.keeps (keptHide2 F1.keep h51)) (hO.tab ((code55 X).keeps F1.keep) (N1.get (a := 51) (by k_mem))) (hashHide (as := [51]) (N1.get (a := f) (by k_mem)) (N1.get (a := cc) (by k_mem)) e4 (N1.get (a := c') (by k_mem)) e6 e7 (by simpa using nf) (by simpa using ncc) (by simpa using nc')) h1 h2 n1 n2 z0 z1 d0 (by omega) b0 b1 (by first | ktr_room | (dsimp only [Ar]; omega)) (by first | ktr_room | (dsimp only [Ar]; omega)) fun bt tt h5 tk5 g5 k5 x5 et => ?_
  obtain ⟨o51', e51, hO'⟩ := x5.obj
  have F2 := frExt F1 h51 nL51 k5
  have N2 := newsCh (pre := [_, _, _, _]) N1 e51 k5 (by
    simp only [List.cons_append, List.nil_append, List.mem_cons, List.not_mem_nil, or_false, forall_eq_or_imp, forall_eq]
    exact ⟨nf, ncc, nc', by decide, by decide⟩)
  simp only [List.cons_append, List.nil_append] at N2
  clear F1 N1
  rw [plain_law z0 z1 d0 (by omega) n2] at et
  (try dsimp only)
  k_steps
  unfold Halt
  rename Fr _ _ _ _ => F1
  rename News _ _ _ _ => N1
  refine exd_spec (s := ⟨_, _, _, _, _⟩) (X.keeps F1.keep) (T.keeps F1.keep) (hashHide (as := []) (N1.get (a := f) (by k_mem)) (N1.get (a := cc) (by k_mem)) e4 (N1.get (a := c') (by k_mem)) e6 e7 (by simp) (by simp) (by simp)) h1 h2 n1 n2 z0 z1 d0 (by omega) b0 b1 (by first | ktr_room | (dsimp only [Ar]; omega)) (by first | ktr_room | (dsimp only [Ar]; omega)) fun be te h6 tk6 k6 ee => ?_
  have F2 := frKept F1 k6
  have N2 := newsKept N1 k6
  clear F1 N1
  have e := bInts_list (et.trans ee.symm)
  (try dsimp only)
  k_steps
  rw [e, beq_self_eq_true]
  exact go _ _ _ (fun b o q => F2.keep _ _ q) (endT (N2.get (a := 421) (by k_mem)) (N2.get (a := 51) (by k_mem)) hO' (N2.get (a := 262) (by k_mem)) hO2)
theorem ns_at {h h' : Heap} {a : Addr} {m : Str → Option Value} {o o' : Obj} (x : h.Ns a m) (e : h.get? a = some o) (e' : h'.get? a = some o') (hd : o'.data = o.data) : h'.Ns a m := by
  obtain ⟨q, es, ep, ho, hd', r⟩ := x
  rw [e] at ho
  cases ho
  exact ⟨o', es, ep, e', hd.trans hd', r⟩
set_option maxHeartbeats 400000 in
theorem way0_refused {A : Addr} {g h : Heap} {L : Addr} {o51 o262 : Obj} {bm bk : Array UInt8} {D B kd wy S : Int} {t1 t2 t3 t4 t5 t6 t7 : Tok} {tk : Nat} {gn : Array GenState} {Q : Flow → Shared → Prop}
    (F : Fr g L h (mS A bm bk D B kd wy S t1 t2 t3 t4 t5 t6 t7)) (N : News g L h [(421, tabObj #[]), (51, o51), (262, o262)]) (hO : TabO o51) (hO2 : TabO o262) (hL : 421 < L) (X : (K w.params).In g) (T : Top p loose mean mg mb g)
    (nk : bk.size ≤ 1000) (hr : 255 < (bk.size : Int) ∨ 255 < -(Int.fdiv (-S) D)) (d0 : 1 ≤ D) (d1 : D ≤ 8) (z0 : 0 ≤ S) (z1 : S ≤ 10000) (hd : dp + 20 < recursionLimit) (hu : un + 400 < cLine)
    (go : ∀ (h' : Heap) (tk' : Nat) (g' : GensOf gn), Kept g h' → EndT h' → Q (.ret (.bool true)) ⟨h', g'.1, s.drawn, tk', s.os⟩) :
    wpAny (model PySem.Challenge.pw_lh0033_01 w) ((Ar dp un gd []).deeper (envL L)) (execs bodW0e (envL L)) Q E ⟨h, gn, s.drawn, tk, s.os⟩ := by
  delta bodW0e bodW0 takeI bod462 takeB envL sco462 takeS mS
  k_steps
  unfold Halt
  have h421 := (N (421, tabObj #[]) (by k_mem)).2.2
  refine law_hash_miss (s := ⟨_, _, _, _, _⟩) (X.keeps (keptHide2 F.keep h421)) (T.keeps (keptHide2 F.keep h421)) (N.get (a := 421) (by k_mem)) (by first | ktr_room | (dsimp only [Ar]; omega)) fun f cc c' o1 o2 vs t t2 ctv doc pm h3 tk3 k3 e1 e2 e3 e4 e5 e6 e7 l1 l2 l3 => ?_
  dsimp only at l1 k3
  have lL := F.ns.lt
  have aL := F.above
  have F2 := frExt F h421 (Nat.ne_of_gt hL) k3
  have Lf : L < f := Nat.lt_of_lt_of_le lL (Nat.le_trans l1 (Nat.le_of_lt (Nat.lt_trans l2 l3)))
  have N2 := newsCh (pre := []) N e1 k3 (by
    simp only [List.nil_append, List.mem_cons, List.not_mem_nil, or_false, forall_eq_or_imp, forall_eq]
    exact ⟨by decide, by decide⟩)
  have N3 := newsCons e2 Lf (Nat.le_trans aL (Nat.le_of_lt Lf)) N2
  simp only [List.nil_append] at N3
  clear F N N2
  (try dsimp only)
  k_steps
  unfold Halt
  rename Fr _ _ _ _ => F1
  rename News _ _ _ _ => N1
  have nL := noneOf F1.above
  obtain ⟨oL, eL, dL⟩ := dict_ns F1.ns
  refine told_refused (s := ⟨_, _, _, _, _⟩) rfl (by intro q; cases q) dL eL (X.keeps (keptHide2 F1.keep nL)) (T.keeps (keptHide2 F1.keep nL)) z0 z1 d0 (by omega) hr nk (by first | ktr_room | (dsimp only [Ar]; omega)) (by first | ktr_room | (dsimp only [Ar]; omega)) fun tt h5 tk5 k5 s5 => ?_
  obtain ⟨sl, e5'⟩ := s5
  have F2' : Fr g L h5 _ := ⟨ns_at F1.ns eL e5' rfl, fun b o q => k5 _ _ (keptHide2 F1.keep nL _ _ q), F1.above⟩
  have N2 := newsHideL N1 k5
  clear F1 N1
  (try dsimp only)
  k_steps
  unfold Halt
  rename Fr _ _ _ _ => F1
  rename News _ _ _ _ => N1
  refine exd_refused (s := ⟨_, _, _, _, _⟩) (X.keeps F1.keep) (T.keeps F1.keep) z0 z1 d0 (by omega) (by rw [← ceilEq d0]; exact hr) nk (by first | ktr_room | (dsimp only [Ar]; omega)) (by first | ktr_room | (dsimp only [Ar]; omega)) fun te h6 tk6 k6 => ?_
  have F2 := frKept F1 k6
  have N2 := newsKept N1 k6
  clear F1 N1
  (try dsimp only)
  k_steps
  rw [beq_self_eq_true]
  exact go _ _ .same (fun b o q => F2.keep _ _ q) (endT (N2.get (a := 421) (by k_mem)) (N2.get (a := 51) (by k_mem)) hO (N2.get (a := 262) (by k_mem)) hO2)
end
example : True := by w_top off; first | walk1 | trivial
section
local macro_rules | `(tactic| walk_at "eval Call Name") => `(tactic| (k_here; (with_reducible show wpAny _ _ (eval (Expr.Call (Expr.Name _ _) _ [] _) _) _ _ _); with_unfolding_all refine Call_ ?_))
local macro_rules | `(tactic| walk_at "execs cons Assign nil") => `(tactic| (k_here; (with_reducible show wpAny _ _ (execs (Stmt.Assign _ _ _ :: _) _) _ _ _); with_reducible refine wpAny_execs_cons ?_))
local macro_rules | `(tactic| walk_at "ite") => `(tactic| (k_here; refine halt ?_))
local macro_rules | `(tactic| walk_at "execs cons Assign cons") => `(tactic| (k_here; (with_reducible show wpAny _ _ (execs (Stmt.Assign _ _ _ :: _) _) _ _ _); with_reducible refine wpAny_execs_cons ?_))
local macro_rules | `(tactic| walk_at "execs cons If cons") => `(tactic| (k_here; (with_reducible show wpAny _ _ (execs (Stmt.If _ _ _ _ :: _) _) _ _ _); with_reducible refine wpAny_execs_cons ?_))
local macro_rules | `(tactic| walk_at "exec If") => `(tactic| (k_here; (with_reducible show wpAny _ _ (exec (Stmt.If _ _ _ _) _) _ _ _); with_unfolding_all refine wpAny_If ?_))
local macro_rules | `(tactic| walk_at "binaryOp Mult ref int") => `(tactic| (k_here; (with_reducible show wpAny _ _ (binaryOp Operator.Mult (Value.ref _) (Value.int _ _)) _ _ _); refine halt ?_))
local macro_rules | `(tactic| walk_at "call type:bytes") => `(tactic| (k_here; (with_reducible show wpAny _ _ (call (Value.type "bytes") [Value.ref _]) _ _ _); refine halt ?_))
local macro_rules | `(tactic| walk_at "execs cons Assign cons") => `(tactic| (k_here; (with_reducible show wpAny _ _ (execs (Stmt.Assign [Expr.Name (Str.ofString "hashed") _] _ _ :: _) _) _ _ _); refine halt ?_))
noncomputable abbrev bodW0t : List Stmt := bodW0.drop 2
theorem ceil256 {D : Int} (d0 : 1 ≤ D) : 255 < -(Int.fdiv (-(255 * D + 1)) D) := by
  have e : (-(255 * D + 1)).fdiv D = -256 + (D - 1).fdiv D := by
    rw [show -(255 * D + 1) = (D - 1) + (-256) * D by omega, Int.add_mul_fdiv_right _ _ (by omega)]
    omega
  have z : (D - 1).fdiv D = 0 := by
    rw [Int.fdiv_eq_ediv_of_nonneg _ (by omega)]
    exact Int.ediv_eq_zero_of_lt (by omega) (by omega)
  omega
set_option maxHeartbeats 1000000 in
theorem way0_tail {A : Addr} {vs0 : List Value} {ns : List Int} {g h : Heap} {L : Addr} {o51 o262 : Obj} {bm bk : Array UInt8} {ms : List Int} {D B kd wy S : Int} {t1 t2 t3 t4 t5 t6 t7 : Tok} {tk : Nat} {gn : Array GenState} {Q : Flow → Shared → Prop}
    (F : Fr g L h (mS A bm bk D B kd wy S t1 t2 t3 t4 t5 t6 t7)) (N : News g L h [(421, tabObj #[]), (51, o51), (262, o262)]) (hO : TabO o51) (hO2 : TabO o262) (hL : 421 < L) (X : (K w.params).In g) (T : Top p loose mean mg mb g) (h1 : KBw.bInts bm = ms)
    (hl : g.IsList A vs0.toArray) (hi : IntsAre vs0 ns) (hlen : ns.length < 2 ^ 62)
    (n1 : ms.length ≤ 8) (n2 : bk.size ≤ 256) (d0 : 1 ≤ D) (d1 : D ≤ 8) (b0 : 0 ≤ B) (b1 : B ≤ 8) (z0 : 0 ≤ S) (z1 : S ≤ 3 * D) (hd : dp + 20 < recursionLimit) (hu : un + 400 < cLine)
    (go : ∀ (h' : Heap) (tk' : Nat) (g' : GensOf gn), Kept g h' → EndT h' → Q (.ret (.bool true)) ⟨h', g'.1, s.drawn, tk', s.os⟩) :
    wpAny (model PySem.Challenge.pw_lh0033_01 w) ((Ar dp un gd []).deeper (envL L)) (execs bodW0t (envL L)) Q E ⟨h, gn, s.drawn, tk, s.os⟩ := by
  delta bodW0t bodW0 takeI bod462 takeB envL sco462 takeS mS
  k_steps
  (unfold Halt; (rename Fr _ _ _ _ => F1); (rename News _ _ _ _ => N1); refine lawAt_spec (s := ⟨_, _, _, _, _⟩) (X.keeps F1.keep) (T.keeps F1.keep) (isListKept hl F1.keep) hi hlen (by decide) (by decide) (by first | ktr_room | (dsimp only [Ar]; omega)) (by first | ktr_room | (dsimp only [Ar]; omega)) ?_; intro t1' h1' tk1' k1'; have F2 := frKept F1 k1'; have N2 := newsKept N1 k1'; clear F1 N1; (try dsimp only))
  k_steps
  unfold Halt
  (rename Fr _ _ _ _ => F1); (rename News _ _ _ _ => N1)
  (try dsimp only at F1)
  (try dsimp only)
  refine split_dec ?_ ?_ <;> intro c6
  · k_steps
    unfold Halt
    (rename Fr _ _ _ _ => F2); (rename News _ _ _ _ => N2)
    have F3 : Fr g L _ (mS A bm bk D B kd wy (255 * D + 1) t1 t2 t3 t4 t5 t6 _) := frEq F2 (by
      funext y
      by_cases e1 : y = Str.ofString "size"
      · subst e1; rfl
      · simp only [mS, if_neg e1])
    exact way0_refused F3 N2 hO hO2 hL X T (by omega) (.inr (ceil256 d0)) d0 d1 (by omega) (by omega) hd hu go
  · k_steps
    unfold Halt
    (rename Fr _ _ _ _ => F2); (rename News _ _ _ _ => N2)
    by_cases c : bk.size ≤ 255
    · exact way0_ok F2 N2 hO hO2 hL X T h1 rfl n1 (by rw [KBw.ints_length]; exact c) d0 d1 b0 b1 z0 z1 hd hu go
    · exact way0_refused F2 N2 hO hO2 hL X T (by omega) (.inl (by omega)) d0 d1 z0 (by omega) hd hu go
local macro_rules | `(tactic| walk_at "execs cons If cons") => `(tactic| (k_here; (with_reducible show wpAny _ _ (execs (Stmt.If (Expr.Compare (Expr.BinOp _ _ _ _) _ _ _) _ _ _ :: _) _) _ _ _); refine halt ?_))
set_option maxHeartbeats 1000000 in
theorem way0_spec {A : Addr} {vs0 : List Value} {ns : List Int} {g h : Heap} {L : Addr} {o51 o262 : Obj} {bm bk : Array UInt8} {ms : List Int} {D B kd wy : Int} {t1 t2 t3 t4 t5 t6 : Tok} {tk : Nat} {gn : Array GenState} {Q : Flow → Shared → Prop}
    (F : Fr g L h (mW A bm bk D B kd wy t1 t2 t3 t4 t5 t6)) (N : News g L h [(421, tabObj #[]), (51, o51), (262, o262)]) (hO : TabO o51) (hO2 : TabO o262) (hL : 421 < L) (X : (K w.params).In g) (T : Top p loose mean mg mb g) (h1 : KBw.bInts bm = ms)
    (hl : g.IsList A vs0.toArray) (hi : IntsAre vs0 ns) (hlen : ns.length < 2 ^ 62)
    (n1 : ms.length ≤ 8) (n2 : bk.size ≤ 6) (d0 : 1 ≤ D) (d1 : D ≤ 8) (b0 : 0 ≤ B) (b1 : B ≤ 8) (k0 : 0 ≤ kd) (k1 : kd ≤ 8) (hd : dp + 20 < recursionLimit) (hu : un + 400 < cLine)
    (go : ∀ (h' : Heap) (tk' : Nat) (g' : GensOf gn), Kept g h' → EndT h' → Q (.ret (.bool true)) ⟨h', g'.1, s.drawn, tk', s.os⟩) :
    wpAny (model PySem.Challenge.pw_lh0033_01 w) ((Ar dp un gd []).deeper (envL L)) (execs bodW0 (envL L)) Q E ⟨h, gn, s.drawn, tk, s.os⟩ := by
  have z0 : 0 ≤ (((lawAt ns 4).fmod 21).fmod (3 * D + 1)) := fmod_lo _ (by omega)
  have z1 : (((lawAt ns 4).fmod 21).fmod (3 * D + 1)) < 3 * D + 1 := fmod_hi _ (by omega)
  have y0 : 0 ≤ (((lawAt ns 4).fmod 21).fmod (3 * D + 1)).fmod (2 * D) := fmod_lo _ (by omega)
  have y1 : (((lawAt ns 4).fmod 21).fmod (3 * D + 1)).fmod (2 * D) < 2 * D := fmod_hi _ (by omega)
  delta bodW0 takeI bod462 takeB envL sco462 takeS mW
  k_steps
  (unfold Halt; (rename Fr _ _ _ _ => F1); (rename News _ _ _ _ => N1); refine lawAt_spec (s := ⟨_, _, _, _, _⟩) (X.keeps F1.keep) (T.keeps F1.keep) (isListKept hl F1.keep) hi hlen (by decide) (by decide) (by first | ktr_room | (dsimp only [Ar]; omega)) (by first | ktr_room | (dsimp only [Ar]; omega)) ?_; intro t1' h1' tk1' k1'; have F2 := frKept F1 k1'; have N2 := newsKept N1 k1'; clear F1 N1; (try dsimp only))
  k_steps
  unfold Halt
  (rename Fr _ _ _ _ => F1); (rename News _ _ _ _ => N1)
  (try dsimp only at F1)
  (try dsimp only)
  refine split_dec ?_ ?_ <;> intro c6
  · k_steps
    (unfold Halt; (rename Fr _ _ _ _ => F1); (rename News _ _ _ _ => N1); refine lawAt_spec (s := ⟨_, _, _, _, _⟩) (X.keeps F1.keep) (T.keeps F1.keep) (isListKept hl F1.keep) hi hlen (by decide) (by decide) (by first | ktr_room | (dsimp only [Ar]; omega)) (by first | ktr_room | (dsimp only [Ar]; omega)) ?_; intro t1' h1' tk1' k1'; have F2 := frKept F1 k1'; have N2 := newsKept N1 k1'; clear F1 N1; (try dsimp only))
    k_steps
    unfold Halt
    (rename Fr _ _ _ _ => F1); (rename News _ _ _ _ => N1)
    refine KM.mul (s := ⟨_, _, _, _, _⟩) F1 N1 (N1.isList (by k_mem)) ((.cons _ _ .nil)) (by omega) (by omega) (by show 1 * _ ≤ _; omega) fun D1 h5 F5 N5 l5 i5 n5 s5 x5 y5 z5 => ?_
    clear F1 N1
    k_steps
    unfold Halt
    (rename Fr _ _ _ _ => F1); (rename News _ _ _ _ => N1)
    have len5 : (List.replicate (248 + kd).toNat [Int.fmod (lawAt ns 6) 256]).flatten.length ≤ 256 := by
      rw [x5]
      have := z5 (by omega)
      simp only [List.length_cons, List.length_nil] at this
      omega
    refine KBa.make_K (s := ⟨_, _, _, _, _⟩) F1 N1 rfl (N1.isList (by k_mem)) i5 ?kbar (Nat.le_trans len5 (by decide)) fun h6 t6' k6 F6 N6 in6 => ?_
    case kbar =>
      intro x hx
      obtain ⟨l, hl1, hl2⟩ := List.mem_flatten.mp hx
      rw [List.eq_of_mem_replicate hl1] at hl2
      rw [List.mem_singleton.mp hl2]
      exact ⟨fmod_lo _ (by decide), fmod_hi _ (by decide)⟩
    clear F1 N1
    have sz6 : (byteArr (List.replicate (248 + kd).toNat [Int.fmod (lawAt ns 6) 256]).flatten).size ≤ 256 := by
      rw [byteArr_size]
      exact len5
    k_steps
    unfold Halt
    (rename Fr _ _ _ _ => F2); (rename News _ _ _ _ => N2)
    have F3 : Fr g L _ (mS A bm (byteArr (List.replicate (248 + kd).toNat [Int.fmod (lawAt ns 6) 256]).flatten) D B kd wy ((((lawAt ns 4).fmod 21).fmod (3 * D + 1)).fmod (2 * D)) _ t2 t3 t4 t5 t6 _) := frEq F2 (by
      funext y
      by_cases e1 : y = Str.ofString "size"
      · subst e1; rfl
      · by_cases e2 : y = Str.ofString "mark"
        · subst e2; rfl
        · simp only [mS, mW, if_neg e1, if_neg e2])
    exact way0_tail F3 (fun p hp => N2 p (List.mem_cons_of_mem _ (List.mem_cons_of_mem _ (List.mem_cons_of_mem _ hp)))) hO hO2 hL X T h1 hl hi hlen n1 sz6 d0 d1 b0 b1 y0 (by omega) hd hu go
  · k_steps
    unfold Halt
    (rename Fr _ _ _ _ => F2); (rename News _ _ _ _ => N2)
    exact way0_tail F2 N2 hO hO2 hL X T h1 hl hi hlen n1 (by omega) d0 d1 b0 b1 z0 (by omega) hd hu go
end
example : True := by w_top off; first | walk1 | trivial
section
local macro_rules | `(tactic| walk_at "eval Call Name") => `(tactic| (k_here; (with_reducible show wpAny _ _ (eval (Expr.Call (Expr.Name _ _) _ [] _) _) _ _ _); with_unfolding_all refine Call_ ?_))
local macro_rules | `(tactic| walk_at "execs cons If cons") => `(tactic| (k_here; (with_reducible show wpAny _ _ (execs (Stmt.If _ _ _ _ :: _) _) _ _ _); refine halt ?_))
noncomputable abbrev bodP : List Stmt := bod462.drop 6
noncomputable abbrev bodQ : List Stmt := bod462.drop 8
noncomputable abbrev mV (A : Addr) (bm bk : Array UInt8) (f : Addr) (q D B kd wy : Int) (t1 t2 t3 t4 t5 t6 t7 : Tok) : Str → Option Value := fun y =>
  if y = Str.ofString "hashed" then some (.ref f) else if y = Str.ofString "p" then some (.int q t7) else if y = Str.ofString "mark" then some (.bytes bk t1) else if y = Str.ofString "kind" then some (.int kd t2) else if y = Str.ofString "way" then some (.int wy t3) else if y = Str.ofString "message" then some (.bytes bm t4) else
  if y = Str.ofString "digits" then some (.int D t5) else if y = Str.ofString "block" then some (.int B t6) else if y = Str.ofString "script" then some (.ref A) else none
noncomputable abbrev bodPh : List Stmt := bod462.drop 7
noncomputable abbrev mP (A : Addr) (bm bk : Array UInt8) (q D : Int) (B kd wy D' : Int) (t1 t2 t3 t4 t5 t6 t5' t7 : Tok) : Str → Option Value := fun y =>
  if y = Str.ofString "p" then some (.int q t7) else if y = Str.ofString "digits" then some (.int D' t5') else mW A bm bk D B kd wy t1 t2 t3 t4 t5 t6 y
set_option maxHeartbeats 1000000 in
theorem way12_hash {A : Addr} {g h : Heap} {L : Addr} {o51 o262 : Obj} {bm bk : Array UInt8} {q D B kd wy : Int} {t1 t2 t3 t4 t5 t6 t5' t7 : Tok} {tk : Nat} {gn : Array GenState} {Q : Flow → Shared → Prop}
    (F : Fr g L h (mP A bm bk q D B kd wy (D + 63) t1 t2 t3 t4 t5 t6 t5' t7)) (N : News g L h [(421, tabObj #[]), (51, o51), (262, o262)]) (hL : 421 < L) (X : (K w.params).In g) (T : Top p loose mean mg mb g) (q0 : 1 ≤ q) (q1 : q ≤ 65537)
    (hd : dp + 20 < recursionLimit) (hu : un + 400 < cLine)
    (go : ∀ (f cc c' : Addr) (o1 o2 : Obj) (vs : Array Value) (t t2' : Tok) (ctv doc pm : Value) (q : Int) (t5' t7 : Tok) (h' : Heap) (tk' : Nat), 1 ≤ q → q ≤ 65537 → Fr g L h' (mV A bm bk f q (D + 63) B kd wy t1 t2 t3 t4 t5' t6 t7) →
      News g L h' [(f, hObj cc ctv doc pm c'), (cc, o1), (c', o2), (421, tabObj (triple c')), (51, o51), (262, o262)] → o1.data = .cell (some (.int (D + 63) t)) → o2.data = .fields vs → vs[1]? = some (.str qualH t2') → L < cc → cc < c' → c' < f →
      wpAny (model PySem.Challenge.pw_lh0033_01 w) ((Ar dp un gd outer).deeper (envL L)) (execs bodQ (envL L)) Q E ⟨h', gn, s.drawn, tk', s.os⟩) :
    wpAny (model PySem.Challenge.pw_lh0033_01 w) ((Ar dp un gd outer).deeper (envL L)) (execs bodPh (envL L)) Q E ⟨h, gn, s.drawn, tk, s.os⟩ := by
  delta bodPh bod462 takeB envL sco462 takeS mP mW
  k_steps
  unfold Halt
  have h421 := (N (421, tabObj #[]) (by k_mem)).2.2
  refine law_hash_miss (s := ⟨_, _, _, _, _⟩) (X.keeps (keptHide2 F.keep h421)) (T.keeps (keptHide2 F.keep h421)) (N.get (a := 421) (by k_mem)) (by first | ktr_room | (dsimp only [Ar]; omega)) fun f cc c' o1 o2 vs t t2 ctv doc pm h3 tk3 k3 e1 e2 e3 e4 e5 e6 e7 l1 l2 l3 => ?_
  dsimp only at l1 k3
  have lL := F.ns.lt
  have aL := F.above
  have F2 := frExt F h421 (Nat.ne_of_gt hL) k3
  have N2 := newsCh (pre := []) N e1 k3 (by
    simp only [List.nil_append, List.mem_cons, List.not_mem_nil, or_false, forall_eq_or_imp, forall_eq]
    exact ⟨by decide, by decide⟩)
  have Lcc : L < cc := Nat.lt_of_lt_of_le lL l1
  have Lc' : L < c' := Nat.lt_trans Lcc l2
  have Lf : L < f := Nat.lt_trans Lc' l3
  have N3 := newsCons e2 Lf (Nat.le_trans aL (Nat.le_of_lt Lf)) (newsCons e3 Lcc (Nat.le_trans aL (Nat.le_of_lt Lcc)) (newsCons e5 Lc' (Nat.le_trans aL (Nat.le_of_lt Lc')) N2))
  simp only [List.nil_append] at N3
  clear F N N2
  (try dsimp only)
  k_steps
  unfold Halt
  rename Fr _ _ _ _ => F1
  rename News _ _ _ _ => N1
  refine go f cc c' o1 o2 vs t t2 ctv doc pm q t5' t7 _ _ q0 q1 (frEq F1 ?_) N1 e4 e6 e7 Lcc l2 l3
  funext y
  by_cases e1 : y = Str.ofString "hashed"
  · subst e1; rfl
  · by_cases e2 : y = Str.ofString "p"
    · subst e2; rfl
    · by_cases e3 : y = Str.ofString "digits"
      · subst e3; rfl
      · simp only [mV, mW, if_neg e1, if_neg e2, if_neg e3]
local macro_rules | `(tactic| walk_at "execs cons Assign cons") => `(tactic| (k_here; (with_reducible show wpAny _ _ (execs (Stmt.Assign [Expr.Name (Str.ofString "hashed") _] _ _ :: _) _) _ _ _); refine halt ?_))
set_option maxHeartbeats 1000000 in
theorem way12_open {A : Addr} {vs0 : List Value} {ns : List Int} {g h : Heap} {L : Addr} {o51 o262 : Obj} {bm bk : Array UInt8} {D B kd wy : Int} {t1 t2 t3 t4 t5 t6 : Tok} {tk : Nat} {gn : Array GenState} {Q : Flow → Shared → Prop}
    (F : Fr g L h (mW A bm bk D B kd wy t1 t2 t3 t4 t5 t6)) (N : News g L h [(421, tabObj #[]), (51, o51), (262, o262)]) (hL : 421 < L) (X : (K w.params).In g) (T : Top p loose mean mg mb g)
    (hl : g.IsList A vs0.toArray) (hi : IntsAre vs0 ns) (hlen : ns.length < 2 ^ 62)
    (d0 : 1 ≤ D) (d1 : D ≤ 8) (hd : dp + 20 < recursionLimit) (hu : un + 400 < cLine)
    (go : ∀ (f cc c' : Addr) (o1 o2 : Obj) (vs : Array Value) (t t2' : Tok) (ctv doc pm : Value) (q : Int) (t5' t7 : Tok) (h' : Heap) (tk' : Nat), 1 ≤ q → q ≤ 65537 → Fr g L h' (mV A bm bk f q (D + 63) B kd wy t1 t2 t3 t4 t5' t6 t7) →
      News g L h' [(f, hObj cc ctv doc pm c'), (cc, o1), (c', o2), (421, tabObj (triple c')), (51, o51), (262, o262)] → o1.data = .cell (some (.int (D + 63) t)) → o2.data = .fields vs → vs[1]? = some (.str qualH t2') → L < cc → cc < c' → c' < f →
      wpAny (model PySem.Challenge.pw_lh0033_01 w) ((Ar dp un gd outer).deeper (envL L)) (execs bodQ (envL L)) Q E ⟨h', gn, s.drawn, tk', s.os⟩) :
    wpAny (model PySem.Challenge.pw_lh0033_01 w) ((Ar dp un gd outer).deeper (envL L)) (execs bodP (envL L)) Q E ⟨h, gn, s.drawn, tk, s.os⟩ := by
  delta bodP bod462 takeB envL sco462 takeS mW
  k_steps
  (unfold Halt; (rename Fr _ _ _ _ => F1); (rename News _ _ _ _ => N1); refine lawAt_spec (s := ⟨_, _, _, _, _⟩) (X.keeps F1.keep) (T.keeps F1.keep) (isListKept hl F1.keep) hi hlen (by decide) (by decide) (by first | ktr_room | (dsimp only [Ar]; omega)) (by first | ktr_room | (dsimp only [Ar]; omega)) ?_; intro t1' h1' tk1' k1'; have F2 := frKept F1 k1'; have N2 := newsKept N1 k1'; clear F1 N1; (try dsimp only))
  k_steps
  all_goals
    unfold Halt
    rename Fr _ _ _ _ => F1
    rename News _ _ _ _ => N1
    refine way12_hash (D := D) (t5 := t5) F1 (fun p hp => N1 p (List.mem_cons_of_mem _ (List.mem_cons_of_mem _ hp))) hL X T (by decide) (by decide) hd hu go
end
example : True := by w_top off; first | walk1 | trivial
section
local macro_rules | `(tactic| walk_at "eval Call Name") => `(tactic| (k_here; (with_reducible show wpAny _ _ (eval (Expr.Call (Expr.Name _ _) _ [] _) _) _ _ _); with_unfolding_all refine Call_ ?_))
local macro_rules | `(tactic| walk_at "eval ListComp") => `(tactic| (k_here; k_dflt (refine ListComp_UT (F₀ := by k_asm) (by rfl) (by decide) (by rfl) (by decide) (by rfl) ?_)))
local macro_rules | `(tactic| walk_at "TupSrc") => `(tactic| (k_here; k_dflt (refine TupSrc.ledger (by rfl) (by k_asm) (by k_asm) (by k_mem) (by first | size_fits | exact Nat.le_of_ble_eq_true rfl) ?_; intro g'; lcg_lit)))
local macro_rules | `(tactic| walk_at "CompRest") => `(tactic| refine halt ?_)
local macro_rules | `(tactic| walk_at "CompEnd") => `(tactic| refine halt ?_)
noncomputable abbrev bodW1 : List Stmt := takeI (x := bod462.getD 8 (.Pass ⟨0, 0, 0, 0⟩)) rfl
set_option maxHeartbeats 1000000 in
theorem way1_spec {A : Addr} {g h : Heap} {L f cc c' : Addr} {o1 o2 o51 o262 : Obj} {vs : Array Value} {bm bk : Array UInt8} {ms ks : List Int} {q D B kd wy : Int} {t t2 t1 t2' t3 t4 t5 t6 t7 : Tok} {ctv doc pm : Value} {tk : Nat} {gn : Array GenState} {Q : Flow → Shared → Prop}
    (F : Fr g L h (mV A bm bk f q D B kd wy t1 t2' t3 t4 t5 t6 t7)) (N : News g L h [(f, hObj cc ctv doc pm c'), (cc, o1), (c', o2), (421, tabObj (triple c')), (51, o51), (262, o262)]) (e4 : o1.data = .cell (some (.int D t))) (e6 : o2.data = .fields vs) (e7 : vs[1]? = some (.str qualH t2)) (Lcc : L < cc) (l2 : cc < c') (l3 : c' < f)
    (hO : TabO o51) (hO2 : TabO o262) (hL : 421 < L) (X : (K w.params).In g) (T : Top p loose mean mg mb g) (h1 : KBw.bInts bm = ms) (h2 : KBw.bInts bk = ks) (q0 : 1 ≤ q) (q1 : q ≤ 65537)
    (n1 : ms.length ≤ 8) (n2 : ks.length ≤ 255) (d0 : 64 ≤ D) (d1 : D ≤ 72) (b0 : 0 ≤ B) (b1 : B ≤ 8) (hd : dp + 20 < recursionLimit) (hu : un + 400 < cLine)
    (go : ∀ (h' : Heap) (tk' : Nat) (g' : GensOf gn), Kept g h' → EndT h' → Q (.ret (.bool true)) ⟨h', g'.1, s.drawn, tk', s.os⟩) :
    wpAny (model PySem.Challenge.pw_lh0033_01 w) ((Ar dp un gd outer).deeper (envL L)) (execs bodW1 (envL L)) Q E ⟨h, gn, s.drawn, tk, s.os⟩ := by
  have nf : f ≠ 51 := Nat.ne_of_gt (Nat.lt_trans (by decide : 51 < 421) (Nat.lt_trans hL (Nat.lt_trans Lcc (Nat.lt_trans l2 l3))))
  have ncc : cc ≠ 51 := Nat.ne_of_gt (Nat.lt_trans (by decide : 51 < 421) (Nat.lt_trans hL Lcc))
  have nc' : c' ≠ 51 := Nat.ne_of_gt (Nat.lt_trans (by decide : 51 < 421) (Nat.lt_trans hL (Nat.lt_trans Lcc l2)))
  have nL51 : L ≠ 51 := Nat.ne_of_gt (Nat.lt_trans (by decide : 51 < 421) hL)
  have h51 := (N (51, o51) (by k_mem)).2.2
  delta bodW1 takeI bod462 takeB envL sco462 takeS mV
  k_steps
  unfold Halt
  rename Fr _ _ _ _ => F1
  rename News _ _ _ _ => N1
  refine exd_spec (s := ⟨_, _, _, _, _⟩) (X.keeps F1.keep) (T.keeps F1.keep) (hashHide (as := []) (N1.get (a := f) (by k_mem)) (N1.get (a := cc) (by k_mem)) e4 (N1.get (a := c') (by k_mem)) e6 e7 (by simp) (by simp) (by simp)) h1 h2 n1 n2 (by decide) (by omega) (by omega) d1 b0 b1 (by first | ktr_room | (dsimp only [Ar]; omega)) (by first | ktr_room | (dsimp only [Ar]; omega)) fun be te h6 tk6 k6 ee => ?_
  have F2 := frKept F1 k6
  have N2 := newsKept N1 k6
  clear F1 N1
  rw [← plain_law (by decide) (by omega) (by omega) d1 n2] at ee
  have lbe : be.size ≤ 256 := by
    rw [← KBw.ints_length, ee]
    exact Nat.le_trans (List.length_take_le _ _) (by decide)
  (try dsimp only)
  k_steps
  unfold Halt
  rename Fr _ _ _ _ => F1
  rename News _ _ _ _ => N1
  refine fq_new (s := ⟨_, _, _, _, _⟩) q0 (X.keeps F1.keep) (T.keeps F1.keep) (by first | ktr_room | (dsimp only [Ar]; omega)) (by first | ktr_room | (dsimp only [Ar]; omega)) fun x dx a1 a2 a3 a4 h7 tk7 k7 ex edx ldx lx => ?_
  dsimp only at ldx k7
  have lL := F1.ns.lt
  have aL := F1.above
  have Ldx : L < dx := Nat.lt_of_lt_of_le lL ldx
  have Lx : L < x := Nat.lt_trans Ldx lx
  have ndx51 : dx ≠ 51 := Nat.ne_of_gt (Nat.lt_trans (by decide : 51 < 421) (Nat.lt_trans hL Ldx))
  have nx51 : x ≠ 51 := Nat.ne_of_gt (Nat.lt_trans (by decide : 51 < 421) (Nat.lt_trans hL Lx))
  have F2 := frKept F1 k7
  have N2 := newsCons ex Lx (Nat.le_trans aL (Nat.le_of_lt Lx)) (newsCons edx Ldx (Nat.le_trans aL (Nat.le_of_lt Ldx)) (newsKept N1 k7))
  have lf : f < dx := Nat.lt_of_lt_of_le (Heap.lt_size (N1.get (a := f) (by k_mem))) ldx
  clear F1 N1
  (try dsimp only)
  k_steps
  unfold Halt
  rename Fr _ _ _ _ => F1
  rename News _ _ _ _ => N1
  have gx := (N1 (x, instObj 249 dx) (by k_mem)).2.2
  have gdx := (N1 (dx, fqDict w.params q (Int.fmod 0 q) a1 a2 a3 a4) (by k_mem)).2.2
  have hsh : Kept g (gFq h7 x dx) := keptHide2 (keptHide2 (keptHide2 F1.keep h51) gx) gdx
  have nfx : f ≠ x := Nat.ne_of_lt (Nat.lt_trans lf lx)
  have nfdx : f ≠ dx := Nat.ne_of_lt lf
  have nccx : cc ≠ x := Nat.ne_of_lt (Nat.lt_trans (Nat.lt_trans l2 l3) (Nat.lt_trans lf lx))
  have nccdx : cc ≠ dx := Nat.ne_of_lt (Nat.lt_trans (Nat.lt_trans l2 l3) lf)
  have nc'x : c' ≠ x := Nat.ne_of_lt (Nat.lt_trans l3 (Nat.lt_trans lf lx))
  have nc'dx : c' ≠ dx := Nat.ne_of_lt (Nat.lt_trans l3 lf)
  refine htf1_spec (s := ⟨_, _, _, _, _⟩) q0 (N1.get (a := x) (by k_mem)) (N1.get (a := dx) (by k_mem)) nx51 ndx51 (X.keeps hsh) (T.keeps hsh) (hO.tab ((code55 X).keeps F1.keep) (N1.get (a := 51) (by k_mem)))
    (hashHide (as := [51, x, dx]) (N1.get (a := f) (by k_mem)) (N1.get (a := cc) (by k_mem)) e4 (N1.get (a := c') (by k_mem)) e6 e7 (by simp [nf, nfx, nfdx]) (by simp [ncc, nccx, nccdx]) (by simp [nc', nc'x, nc'dx]))
    h1 h2 n1 n2 d0 d1 b0 b1 (by first | ktr_room | (dsimp only [Ar]; omega)) (by first | ktr_room | (dsimp only [Ar]; omega)) fun tu x2 dx2 u1 u2 u3 u4 h8 tk8 g8 k8 x8 etu ex2 edx2 ldx2 lx2 ltu => ?_
  obtain ⟨o51', e51, hO'⟩ := x8.obj
  dsimp only at ldx2 k8
  have l7 := N1.get (a := x) (by k_mem)
  have lL := F1.ns.lt
  have aL := F1.above
  have Ldx2 : L < dx2 := Nat.lt_of_lt_of_le lL ldx2
  have Lx2 : L < x2 := Nat.lt_trans Ldx2 lx2
  have Ltu : L < tu := Nat.lt_trans Lx2 ltu
  have F2 := frExt F1 h51 nL51 k8
  have N2 := newsCh (pre := [_, _, _, _, _, _]) N1 e51 k8 (by
    simp only [List.cons_append, List.nil_append, List.mem_cons, List.not_mem_nil, or_false, forall_eq_or_imp, forall_eq]
    exact ⟨nx51, ndx51, nf, ncc, nc', by decide, by decide⟩)
  simp only [List.cons_append, List.nil_append] at N2
  have N3 := newsCons etu Ltu (Nat.le_trans aL (Nat.le_of_lt Ltu)) (newsCons ex2 Lx2 (Nat.le_trans aL (Nat.le_of_lt Lx2)) (newsCons edx2 Ldx2 (Nat.le_trans aL (Nat.le_of_lt Ldx2)) N2))
  clear F1 N1 N2
  have ee' : KBw.bInts be = (xmdL D ms ks 64 B (-(Int.fdiv (-64) D) - 1).toNat).take 64 := ee
  rw [← ee'] at N3
  (try dsimp only)
  k_steps
  unfold Halt

  refine LCg.CompRest.succ ?_
  intro v I oI C oC D' m' h9 tk9 E9 hv hC hx F9 N9 off9 ne9
  have ev : v = .ref x2 := by simpa using hv.symm
  subst ev
  k_steps
  unfold Halt
  refine LCg.CompEnd.intro F9 N9 _ (fun p hp => hp) off9 (by k_mem) ?_
  refine LCg.CompRest.zero ?_
  unfold LCg.FinE
  intro D1 h10 tk10 F10 N10 o10
  simp only [LCg.lst, List.nil_append] at N10
  clear F9 N9 hC hx ne9
  (rename Fr _ _ _ _ => Fa)
  (rename News _ _ _ _ => Na)
  (try dsimp only)
  k_steps
  unfold Halt
  (rename Fr _ _ _ _ => F1)
  (rename News _ _ _ _ => N1)
  refine callFbPos (KFB.at_of N1 (by k_mem)) lbe ?_
  (try dsimp only)
  k_steps
  rename Fr _ _ _ _ => F11
  rename News _ _ _ _ => N2
  rw [Int.fmod_fmod, decide_eq_true rfl]
  exact go _ _ _ (fun b o e => F11.keep _ _ e) (endT (N2.get (a := 421) (by k_mem)) (N2.get (a := 51) (by k_mem)) hO' (N2.get (a := 262) (by k_mem)) hO2)
end
example : True := by w_top off; first | walk1 | trivial
section
local macro_rules | `(tactic| walk_at "eval Call Name") => `(tactic| (k_here; (with_reducible show wpAny _ _ (eval (Expr.Call (Expr.Name _ _) _ [] _) _) _ _ _); with_unfolding_all refine Call_ ?_))
local macro_rules | `(tactic| walk_at "eval ListComp") => `(tactic| (k_here; k_dflt (refine ListComp_UT (F₀ := by k_asm) (by rfl) (by decide) (by rfl) (by decide) (by rfl) ?_)))
local macro_rules | `(tactic| walk_at "TupSrc") => `(tactic| (k_here; k_dflt (refine TupSrc.ledger (by rfl) (by k_asm) (by k_asm) (by k_mem) (by first | size_fits | exact Nat.le_of_ble_eq_true rfl) ?_; intro g'; lcg_lit)))
local macro_rules | `(tactic| walk_at "CompRest") => `(tactic| refine halt ?_)
local macro_rules | `(tactic| walk_at "CompEnd") => `(tactic| refine halt ?_)
noncomputable abbrev bodW2 : List Stmt := bod462.drop 9
theorem compEnd_new {h₀ : Heap} {L I C D lv : Addr} {m : Str → Option Value} {s₁ : Shared} {oI oC oD o : Obj} {S : List (Addr × Obj) → Prop} {rest : Value → List (Addr × Obj) → Prop} {y : Value} {h' : Heap} {tk : Nat} {news : List (Addr × Obj)}
    (F : Fr h₀ L h' m) (N : News h₀ L h' ((lv, o) :: (I, oI) :: (C, oC) :: (D, oD) :: news)) (n : lv ≠ I ∧ lv ≠ C ∧ lv ≠ D) (off : LCg.Off3 I C D news) (hS : S ((lv, o) :: news)) (r : rest y ((lv, o) :: news)) :
    LCg.CompEnd h₀ L m s₁ I oI C oC D oD S rest y { s₁ with heap := h', toks := tk } :=
  LCg.CompEnd.intro F N ((lv, o) :: news) (fun p hp => by
    rcases List.mem_cons.mp hp with rfl | hp
    · exact .tail _ (.head _)
    · rcases List.mem_cons.mp hp with rfl | hp
      · exact .tail _ (.tail _ (.head _))
      · rcases List.mem_cons.mp hp with rfl | hp
        · exact .tail _ (.tail _ (.tail _ (.head _)))
        · rcases List.mem_cons.mp hp with rfl | hp
          · exact .head _
          · exact .tail _ (.tail _ (.tail _ (.tail _ hp)))) ⟨n, off⟩ hS r
theorem part0 {es : List Int} : partL es (64 * (0 + 0 * 2)) = es.take (clipAt es.length 64) := by
  unfold partL
  rw [show (64 * (0 + 0 * 2) : Int) = ((0 : Nat) : Int) from rfl, show (((0 : Nat) : Int) + 64) = ((64 : Nat) : Int) from rfl, show (64 : Int) = ((64 : Nat) : Int) from rfl, clipAt_nat, clipAt_nat]
  simp
theorem part1 {es : List Int} (h : es.length ≤ 128) : partL es (64 * (1 + 0 * 2)) = es.drop (clipAt es.length 64) := by
  unfold partL
  rw [show (64 * (1 + 0 * 2) : Int) = ((64 : Nat) : Int) from rfl, show (((64 : Nat) : Int) + 64) = ((128 : Nat) : Int) from rfl, show (64 : Int) = ((64 : Nat) : Int) from rfl, clipAt_nat, clipAt_nat]
  refine List.take_of_length_le ?_
  rw [List.length_drop]
  omega
theorem frBut2 {g h h' : Heap} {L a b : Addr} {m : Str → Option Value} (F : Fr g L h m) (ha : g.get? a = none) (hb : g.get? b = none) (la : L ≠ a) (lb : L ≠ b) (k : ∀ c o, c ≠ a → c ≠ b → h.get? c = some o → h'.get? c = some o) : Fr g L h' m := by
  obtain ⟨oL, a1, a2, hL', a3⟩ := F.ns
  refine ⟨⟨oL, a1, a2, k _ _ la lb hL', a3⟩, fun c o e => k c o (fun q => ?_) (fun q => ?_) (F.keep c o e), F.above⟩
  · subst q; rw [ha] at e; cases e
  · subst q; rw [hb] at e; cases e
set_option maxHeartbeats 1000000 in
theorem way2_spec {A : Addr} {g h : Heap} {L f cc c' : Addr} {o1 o2 o51 o262 : Obj} {vs : Array Value} {bm bk : Array UInt8} {ms ks : List Int} {q D B kd wy : Int} {t t2 t1 t2' t3 t4 t5 t6 t7 : Tok} {ctv doc pm : Value} {tk : Nat} {gn : Array GenState} {Q : Flow → Shared → Prop}
    (F : Fr g L h (mV A bm bk f q D B kd wy t1 t2' t3 t4 t5 t6 t7)) (N : News g L h [(f, hObj cc ctv doc pm c'), (cc, o1), (c', o2), (421, tabObj (triple c')), (51, o51), (262, o262)]) (e4 : o1.data = .cell (some (.int D t))) (e6 : o2.data = .fields vs) (e7 : vs[1]? = some (.str qualH t2)) (Lcc : L < cc) (l2 : cc < c') (l3 : c' < f)
    (hO : TabO o51) (hO2 : TabO o262) (hL : 421 < L) (X : (K w.params).In g) (T : Top p loose mean mg mb g) (h1 : KBw.bInts bm = ms) (h2 : KBw.bInts bk = ks) (q0 : 1 ≤ q) (q1 : q ≤ 65537)
    (n1 : ms.length ≤ 8) (n2 : ks.length ≤ 255) (d0 : 64 ≤ D) (d1 : D ≤ 72) (b0 : 0 ≤ B) (b1 : B ≤ 8) (hd : dp + 20 < recursionLimit) (hu : un + 400 < cLine)
    (go : ∀ (h' : Heap) (tk' : Nat) (g' : GensOf gn), Kept g h' → EndT h' → Q (.ret (.bool true)) ⟨h', g'.1, s.drawn, tk', s.os⟩) :
    wpAny (model PySem.Challenge.pw_lh0033_01 w) ((Ar dp un gd outer).deeper (envL L)) (execs bodW2 (envL L)) Q E ⟨h, gn, s.drawn, tk, s.os⟩ := by
  have nf : f ≠ 51 := Nat.ne_of_gt (Nat.lt_trans (by decide : 51 < 421) (Nat.lt_trans hL (Nat.lt_trans Lcc (Nat.lt_trans l2 l3))))
  have ncc : cc ≠ 51 := Nat.ne_of_gt (Nat.lt_trans (by decide : 51 < 421) (Nat.lt_trans hL Lcc))
  have nc' : c' ≠ 51 := Nat.ne_of_gt (Nat.lt_trans (by decide : 51 < 421) (Nat.lt_trans hL (Nat.lt_trans Lcc l2)))
  have nL51 : L ≠ 51 := Nat.ne_of_gt (Nat.lt_trans (by decide : 51 < 421) hL)
  have nf2 : f ≠ 262 := Nat.ne_of_gt (Nat.lt_trans (by decide : 262 < 421) (Nat.lt_trans hL (Nat.lt_trans Lcc (Nat.lt_trans l2 l3))))
  have ncc2 : cc ≠ 262 := Nat.ne_of_gt (Nat.lt_trans (by decide : 262 < 421) (Nat.lt_trans hL Lcc))
  have nc'2 : c' ≠ 262 := Nat.ne_of_gt (Nat.lt_trans (by decide : 262 < 421) (Nat.lt_trans hL (Nat.lt_trans Lcc l2)))
  have nL262 : L ≠ 262 := Nat.ne_of_gt (Nat.lt_trans (by decide : 262 < 421) hL)
  have h262 := (N (262, o262) (by k_mem)).2.2
  have h51 := (N (51, o51) (by k_mem)).2.2
  delta bodW2 bod462 takeB envL sco462 takeS mV
  k_steps
  unfold Halt
  rename Fr _ _ _ _ => F1
  rename News _ _ _ _ => N1
  refine exd_spec (size := 128) (s := ⟨_, _, _, _, _⟩) (X.keeps F1.keep) (T.keeps F1.keep) (hashHide (as := []) (N1.get (a := f) (by k_mem)) (N1.get (a := cc) (by k_mem)) e4 (N1.get (a := c') (by k_mem)) e6 e7 (by simp) (by simp) (by simp)) h1 h2 n1 n2 (by decide) (by omega) (by omega) d1 b0 b1 (by first | ktr_room | (dsimp only [Ar]; omega)) (by first | ktr_room | (dsimp only [Ar]; omega)) fun be te h6 tk6 k6 ee => ?_
  have F2 := frKept F1 k6
  have N2 := newsKept N1 k6
  clear F1 N1
  rw [← plain_law (by decide) (by omega) (by omega) d1 n2] at ee
  have lbe : be.size ≤ 256 := by
    rw [← KBw.ints_length, ee]
    exact Nat.le_trans (List.length_take_le _ _) (by decide)
  (try dsimp only)
  k_steps
  unfold Halt
  rename Fr _ _ _ _ => F1
  rename News _ _ _ _ => N1
  rename_i hz l hy l1a mo hB l1b
  have gl := (N1 _ (.tail _ (.head _))).2.2
  have gmo := (N1 _ (.head _)).2.2
  dsimp only at gl gmo
  have kg1 : Kept g (hideAll hB [l, mo, 262]) := keptHideAll F1.keep (by
    simp only [List.mem_cons, List.not_mem_nil, or_false, forall_eq_or_imp, forall_eq]
    exact ⟨gl, gmo, h262⟩)
  have nl2 : l ≠ 262 := tab_neP N1 (.tail _ (.head _)) (by k_mem) hO2 (fun _ z => by cases z)
  have nmo2 : mo ≠ 262 := tab_neP N1 (.head _) (by k_mem) hO2 (fun _ z => by cases z)
  have nmo1 : mo ≠ 51 := tab_neP N1 (.head _) (by k_mem) hO (fun _ z => by cases z)
  have nfmo : f ≠ mo := data_ne (N1.get (a := f) (by k_mem)) (N1.get (a := mo) (by k_mem)) (fun z => by cases z)
  have nccmo : cc ≠ mo := data_ne (N1.get (a := cc) (by k_mem)) (N1.get (a := mo) (by k_mem)) (fun z => by rw [e4] at z; cases z)
  have nc'mo : c' ≠ mo := data_ne (N1.get (a := c') (by k_mem)) (N1.get (a := mo) (by k_mem)) (fun z => by rw [e6] at z; cases z)
  refine fq2_new (s := ⟨_, _, _, _, _⟩) q0 (N1.get (a := l) (by k_mem)) (N1.get (a := mo) (by k_mem)) (hO2.tab ((code264 X).keeps F1.keep) (N1.get (a := 262) (by k_mem))) (X.keeps kg1) (T.keeps kg1) (by first | ktr_room | (dsimp only [Ar]; omega)) (by first | ktr_room | (dsimp only [Ar]; omega))
    fun x dx TU D2 a1 a2 a3 a4 a5 a6 a7 ta tb h7 tk7 g7 k7 t7x ex edx eTU ldx lx lTU => ?_
  dsimp only at ldx lTU k7
  obtain ⟨o262', e262, hO2'⟩ := t7x.obj
  have lL := F1.ns.lt
  have aL := F1.above
  have Ldx : L < dx := Nat.lt_of_lt_of_le lL ldx
  have Lx : L < x := Nat.lt_trans Ldx lx
  have lf : f < dx := Nat.lt_of_lt_of_le (Heap.lt_size (N1.get (a := f) (by k_mem))) ldx
  have lmo : mo < dx := Nat.lt_of_lt_of_le (Heap.lt_size (N1.get (a := mo) (by k_mem))) ldx
  have F2 := frExt F1 h262 nL262 k7
  have N2 := newsCh (pre := [_, _, _, _, _, _, _]) N1 e262 k7 (by
    simp only [List.cons_append, List.nil_append, List.mem_cons, List.not_mem_nil, or_false, forall_eq_or_imp, forall_eq]
    exact ⟨nmo2, nl2, nf2, ncc2, nc'2, by decide, by decide⟩)
  simp only [List.cons_append, List.nil_append] at N2
  have N3 := newsCons ex Lx (Nat.le_trans aL (Nat.le_of_lt Lx)) (newsCons edx Ldx (Nat.le_trans aL (Nat.le_of_lt Ldx)) N2)
  clear F1 N1 N2
  (try dsimp only)
  k_steps
  unfold Halt
  rename Fr _ _ _ _ => F1
  rename News _ _ _ _ => N1
  have gx := (N1 _ (.head _)).2.2
  have gdx := (N1 _ (.tail _ (.head _))).2.2
  dsimp only at gx gdx
  have kg2 : Kept g (hideAll h7 [x, dx, mo, 51, 262]) := keptHideAll F1.keep (by
    simp only [List.mem_cons, List.not_mem_nil, or_false, forall_eq_or_imp, forall_eq]
    exact ⟨gx, gdx, gmo, h51, h262⟩)
  have nfx : f ≠ x := Nat.ne_of_lt (Nat.lt_trans lf lx)
  have nfdx : f ≠ dx := Nat.ne_of_lt lf
  have nccx : cc ≠ x := Nat.ne_of_lt (Nat.lt_trans (Nat.lt_trans l2 l3) (Nat.lt_trans lf lx))
  have nccdx : cc ≠ dx := Nat.ne_of_lt (Nat.lt_trans (Nat.lt_trans l2 l3) lf)
  have nc'x : c' ≠ x := Nat.ne_of_lt (Nat.lt_trans l3 (Nat.lt_trans lf lx))
  have nc'dx : c' ≠ dx := Nat.ne_of_lt (Nat.lt_trans l3 lf)
  refine htf2_spec (s := ⟨_, _, _, _, _⟩) q0 (N1.get (a := x) (by k_mem)) (N1.get (a := dx) (by k_mem)) (N1.get (a := mo) (by k_mem)) (X.keeps kg2) (T.keeps kg2) (hO.tab ((code55 X).keeps F1.keep) (N1.get (a := 51) (by k_mem))) (hO2'.tab ((code264 X).keeps F1.keep) (N1.get (a := 262) (by k_mem)))
    (hashHide (as := [x, dx, mo, 51, 262]) (N1.get (a := f) (by k_mem)) (N1.get (a := cc) (by k_mem)) e4 (N1.get (a := c') (by k_mem)) e6 e7 (by simp [nf, nfx, nfdx, nfmo, nf2]) (by simp [ncc, nccx, nccdx, nccmo, ncc2]) (by simp [nc', nc'x, nc'dx, nc'mo, nc'2]))
    h1 h2 n1 n2 d0 d1 b0 b1 (by first | ktr_room | (dsimp only [Ar]; omega)) (by first | ktr_room | (dsimp only [Ar]; omega)) fun tu x2 dx2 TU2 D3 u1 u2 u3 u4 u5 u6 u7 tc td h8 tk8 g8 k8 x8 y8 etu ex2 edx2 eTU2 ldx2 lx2 lTU2 ltu => ?_
  dsimp only at ldx2 lTU2 k8
  have lL2 := F1.ns.lt
  have Ldx2 : L < dx2 := Nat.lt_of_lt_of_le lL2 ldx2
  have Lx2 : L < x2 := Nat.lt_trans Ldx2 lx2
  have Ltu : L < tu := Nat.lt_trans Lx2 ltu
  have LTU2 : L < TU2 := Nat.lt_of_lt_of_le lL2 lTU2
  have F2 := frBut2 F1 h51 h262 nL51 nL262 k8
  obtain ⟨o51e, e51e, hO'e⟩ := x8.obj
  obtain ⟨o262e, e262e, hO2'e⟩ := y8.obj
  have e421e := k8 _ _ (by decide) (by decide) (N1.get (a := 421) (by k_mem))
  have h421 := (N1 (421, tabObj (triple c')) (by k_mem)).2
  have ee' : KBw.bInts be = (xmdL D ms ks 128 B (-(Int.fdiv (-128) D) - 1).toNat).take 128 := ee
  rw [show (1 * 2 * 64 : Int) = 128 from rfl, show (128 : Int).toNat = 128 from rfl, ← ee'] at eTU2
  obtain ⟨es, hes⟩ : ∃ es, KBw.bInts be = es := ⟨_, rfl⟩
  have les : es.length ≤ 128 := by rw [← hes, ee']; exact List.length_take_le _ _
  rw [hes, part0, part1 les, Int.fmod_fmod, Int.fmod_fmod] at eTU2
  clear ee ee'
  have N2 := newsCons etu Ltu (Nat.le_trans aL (Nat.le_of_lt Ltu)) (newsCons ex2 Lx2 (Nat.le_trans aL (Nat.le_of_lt Lx2)) (newsCons edx2 Ldx2 (Nat.le_trans aL (Nat.le_of_lt Ldx2)) (newsCons eTU2 LTU2 (Nat.le_trans aL (Nat.le_of_lt LTU2)) (newsCons' e421e h421.1 h421.2 (newsCons' e51e (Ne.symm nL51) h51 (newsCons' e262e (Ne.symm nL262) h262 (newsNil F2)))))))
  clear F1 N1
  (try dsimp only)
  k_steps
  unfold Halt
  refine LCg.CompRest.succ ?_
  intro v I oI C oC D' m' h9 tk9 E9 hv hC hx F9 N9 off9 ne9
  have ev : v = .ref x2 := by simpa using hv.symm
  subst ev
  k_steps
  unfold Halt
  rename_i lv c10 h10 F10 N10 l10
  refine compEnd_new F10 N10 ⟨Nat.ne_of_gt l10.1, Nat.ne_of_gt l10.2.1, Nat.ne_of_gt l10.2.2.1⟩ off9 (by k_mem) ?_
  refine LCg.CompRest.zero ?_
  unfold LCg.FinE
  intro D1 h11 tk11 F11 N11 o11
  simp only [LCg.lst, List.nil_append] at N11
  clear F10 N10 l10
  (rename Fr _ _ _ _ => Fa)
  (rename News _ _ _ _ => Na)
  (try dsimp only)
  k_steps
  unfold Halt
  (rename Fr _ _ _ _ => F1)
  (rename News _ _ _ _ => N1)
  rename_i kc1
  refine callFbPos (KFB.at_of N1 (by k_mem)) (by rw [← KBw.ints_length, kc1]; exact Nat.le_trans (List.length_take_le' _ _) (Nat.le_trans les (by decide))) ?_
  rw [kc1]
  (try dsimp only)
  k_steps
  unfold Halt
  (rename Fr _ _ _ _ => F3)
  (rename News _ _ _ _ => N3)
  rename_i kc2
  rw [List.take_of_length_le (by rw [List.length_drop]; exact Nat.le_refl _)] at kc2
  refine callFbPos (KFB.at_of N3 (by k_mem)) (by rw [← KBw.ints_length, kc2, List.length_drop]; omega) ?_
  rw [kc2]
  (try dsimp only)
  k_steps
  rename Fr _ _ _ _ => F5
  rename News _ _ _ _ => N5
  exact go _ _ (g7.trans g8) (fun b o e => F5.keep _ _ e) (endT (N5.get (a := 421) (by k_mem)) (N5.get (a := 51) (by k_mem)) hO'e (N5.get (a := 262) (by k_mem)) hO2'e)
end
example : True := by w_top off; first | walk1 | trivial
section
local macro_rules | `(tactic| walk_at "eval Call Name") => `(tactic| (k_here; (with_reducible show wpAny _ _ (eval (Expr.Call (Expr.Name _ _) _ [] _) _) _ _ _); with_unfolding_all refine Call_ ?_))
local macro_rules | `(tactic| walk_at "execs cons Assign cons") => `(tactic| (k_here; (with_reducible show wpAny _ _ (execs (Stmt.Assign [Expr.Name (Str.ofString "due") _] _ _ :: _) _) _ _ _); refine halt ?_))
local macro_rules | `(tactic| walk_at "ite") => `(tactic| (k_here; refine halt ?_))
local macro_rules | `(tactic| walk_at "execs cons If cons") => `(tactic| (k_here; (with_reducible show wpAny _ _ (execs (Stmt.If _ _ _ _ :: _) _) _ _ _); with_reducible refine wpAny_execs_cons ?_))
local macro_rules | `(tactic| walk_at "exec If") => `(tactic| (k_here; (with_reducible show wpAny _ _ (exec (Stmt.If _ _ _ _) _) _ _ _); with_unfolding_all refine wpAny_If ?_))
set_option maxHeartbeats 1000000 in
theorem way12_spec {A : Addr} {vs0 : List Value} {ns : List Int} {g h : Heap} {L : Addr} {o51 o262 : Obj} {bm bk : Array UInt8} {ms ks : List Int} {D B kd wy : Int} {t1 t2 t3 t4 t5 t6 : Tok} {tk : Nat} {gn : Array GenState} {Q : Flow → Shared → Prop}
    (F : Fr g L h (mW A bm bk D B kd wy t1 t2 t3 t4 t5 t6)) (N : News g L h [(421, tabObj #[]), (51, o51), (262, o262)]) (hO : TabO o51) (hO2 : TabO o262) (hL : 421 < L) (X : (K w.params).In g) (T : Top p loose mean mg mb g) (h1 : KBw.bInts bm = ms) (h2 : KBw.bInts bk = ks)
    (hl : g.IsList A vs0.toArray) (hi : IntsAre vs0 ns) (hlen : ns.length < 2 ^ 62)
    (n1 : ms.length ≤ 8) (n2 : ks.length ≤ 255) (d0 : 1 ≤ D) (d1 : D ≤ 8) (b0 : 0 ≤ B) (b1 : B ≤ 8) (hd : dp + 20 < recursionLimit) (hu : un + 400 < cLine)
    (go : ∀ (h' : Heap) (tk' : Nat) (g' : GensOf gn), Kept g h' → EndT h' → Q (.ret (.bool true)) ⟨h', g'.1, s.drawn, tk', s.os⟩) :
    wpAny (model PySem.Challenge.pw_lh0033_01 w) ((Ar dp un gd outer).deeper (envL L)) (execs bodP (envL L)) Q E ⟨h, gn, s.drawn, tk, s.os⟩ := by
  refine way12_open F N hL X T hl hi hlen d0 d1 hd hu fun f cc c' o1 o2 vs t t2' ctv doc pm q t5' t7 h' tk' q0 q1 F1 N1 e4 e6 e7 Lcc l2 l3 => ?_
  clear F N
  delta bodQ bod462 takeB envL sco462 takeS mV
  k_steps
  unfold Halt
  refine split_dec ?_ ?_ <;> intro c6
  · exact way1_spec F1 N1 e4 e6 e7 Lcc l2 l3 hO hO2 hL X T h1 h2 q0 q1 n1 n2 (by omega) (by omega) b0 b1 hd hu go
  · k_steps
    unfold Halt
    exact way2_spec F1 N1 e4 e6 e7 Lcc l2 l3 hO hO2 hL X T h1 h2 q0 q1 n1 n2 (by omega) (by omega) b0 b1 hd hu go
noncomputable abbrev bodW3 : List Stmt := takeI (x := bod462.getD 5 (.Pass ⟨0, 0, 0, 0⟩)) rfl
set_option maxHeartbeats 1000000 in
theorem way3_spec {A : Addr} {vs0 : List Value} {ns : List Int} {g h : Heap} {L : Addr} {o51 o262 : Obj} {bm bk : Array UInt8} {ms ks : List Int} {D B kd wy : Int} {t1 t2 t3 t4 t5 t6 : Tok} {tk : Nat} {gn : Array GenState} {Q : Flow → Shared → Prop}
    (F : Fr g L h (mW A bm bk D B kd wy t1 t2 t3 t4 t5 t6)) (N : News g L h [(421, tabObj #[]), (51, o51), (262, o262)]) (hO : TabO o51) (hO2 : TabO o262) (hL : 421 < L) (X : (K w.params).In g) (T : Top p loose mean mg mb g) (h1 : KBw.bInts bm = ms) (h2 : KBw.bInts bk = ks)
    (hl : g.IsList A vs0.toArray) (hi : IntsAre vs0 ns) (hlen : ns.length < 2 ^ 62)
    (n1 : ms.length ≤ 30) (n2 : ks.length ≤ 30) (hd : dp + 20 < recursionLimit) (hu : un + 400 < cLine)
    (go : ∀ (h' : Heap) (tk' : Nat) (g' : GensOf gn), Kept g h' → EndT h' → Q (.ret (.bool true)) ⟨h', g'.1, s.drawn, tk', s.os⟩) :
    wpC (model PySem.Challenge.pw_lh0033_01 w) ((Ar dp un (some []) outer).deeper (envL L)) (execs bodW3 (envL L)) Q E ⟨h, gn, s.drawn, tk, s.os⟩ := by
  delta bodW3 takeI bod462 takeB envL sco462 takeS mW
  refine wpC_execs_cons (wpC_Return (wpC_Call_Name ?_))
  k_steps
  refine callWithC_ready ?_
  k_steps
  (unfold Halt; (rename Fr _ _ _ _ => F1); (rename News _ _ _ _ => N1); refine lawAt_spec (s := ⟨_, _, _, _, _⟩) (X.keeps F1.keep) (T.keeps F1.keep) (isListKept hl F1.keep) hi hlen (by decide) (by decide) (by first | ktr_room | (dsimp only [Ar]; omega)) (by first | ktr_room | (dsimp only [Ar]; omega)) ?_; intro t1' h1' tk1' k1'; have F2 := frKept F1 k1'; have N2 := newsKept N1 k1'; clear F1 N1; (try dsimp only))
  k_steps
  (unfold Halt; (rename Fr _ _ _ _ => F1); (rename News _ _ _ _ => N1); refine lawAt_spec (s := ⟨_, _, _, _, _⟩) (X.keeps F1.keep) (T.keeps F1.keep) (isListKept hl F1.keep) hi hlen (by decide) (by decide) (by first | ktr_room | (dsimp only [Ar]; omega)) (by first | ktr_room | (dsimp only [Ar]; omega)) ?_; intro t1' h1' tk1' k1'; have F2 := frKept F1 k1'; have N2 := newsKept N1 k1'; clear F1 N1; (try dsimp only))
  k_steps
  (rename Fr _ _ _ _ => F1)
  (rename News _ _ _ _ => N1)
  have h51 := (N1 (51, o51) (by k_mem)).2.2
  have h421 := (N1 (421, tabObj #[]) (by k_mem)).2.2
  have kg : Kept g (hideAll _ [421, 51]) := keptHideAll F1.keep (by
    simp only [List.mem_cons, List.not_mem_nil, or_false, forall_eq_or_imp, forall_eq]
    exact ⟨h421, h51⟩)
  refine ⟨_, _, F1.keep _ _ (X 457 _ (by k_is)), rfl, ?_⟩
  refine keys_spec (s := ⟨_, _, _, _, _⟩) (X.keeps kg) (T.keeps kg) (N1.get (a := 421) (by k_mem)) (hO.tab ((code55 X).keeps F1.keep) (N1.get (a := 51) (by k_mem))) h1 h2 n1 n2 (fmod_lo _ (by decide)) (Int.le_of_lt_add_one (fmod_hi _ (by decide))) (fmod_lo _ (by decide)) (fmod_hi _ (by decide)) (by first | ktr_room | (dsimp only [Ar]; omega)) (by first | ktr_room | (dsimp only [Ar]; omega)) fun h5 tk5 g5 k5 a5 b5 => ?_
  obtain ⟨ps2, r2, _⟩ := id hO2
  subst r2
  exact go _ _ _ (fun b o e => k5 b o (fun q => by subst q; rw [h421] at e; cases e) (fun q => by subst q; rw [h51] at e; cases e) (F1.keep _ _ e)) ⟨a5, b5, _, k5 _ _ (by decide) (by decide) (N1.get (a := 262) (by k_mem))⟩
set_option maxHeartbeats 1000000 in
theorem law_spec {A : Addr} {vs : List Value} {ns : List Int} {o51 o262 : Obj}
    (X : (K w.params).In (hideAll s.heap [421, 51, 262])) (T : Top p loose mean mg mb (hideAll s.heap [421, 51, 262])) (h421 : s.heap.get? 421 = some (tabObj #[])) (h51 : s.heap.get? 51 = some o51) (h262 : s.heap.get? 262 = some o262) (hO : TabO o51) (hO2 : TabO o262)
    (hl : (hideAll s.heap [421, 51, 262]).IsList A vs.toArray) (hi : IntsAre vs ns) (hlen : ns.length < 2 ^ 62) (hd : dp + 22 < recursionLimit) (hu : un + 420 < cLine)
    (hret : ∀ (h' : Heap) (tk' : Nat) (g' : GensOf s.gens), Kept (hideAll s.heap [421, 51, 262]) h' → EndT h' → Q (.bool true) ⟨h', g'.1, s.drawn, tk', s.os⟩) :
    wpC (model PySem.Challenge.pw_lh0033_01 w) (Ar dp un (some []) []) (call (.ref 462) [.ref A]) Q E s := by
  refine law_open X T h421 h51 h262 hl hi hlen (by omega) (by omega) fun L h' bm bk t1 t2 t3 t4 t5 t6 tk' F N e1 e2 lL => ?_
  have hL : 421 < L := Nat.lt_of_lt_of_le (Heap.lt_size h421) lL
  have d0 : 1 ≤ 1 + Int.fmod (lawAt ns 0) 8 := by have := fmod_lo (lawAt ns 0) (by decide : (0 : Int) < 8); omega
  have d1 : 1 + Int.fmod (lawAt ns 0) 8 ≤ 8 := by have := fmod_hi (lawAt ns 0) (by decide : (0 : Int) < 8); omega
  have b0 : 0 ≤ Int.fmod (lawAt ns 1) 9 := fmod_lo _ (by decide)
  have b1 : Int.fmod (lawAt ns 1) 9 ≤ 8 := by have := fmod_hi (lawAt ns 1) (by decide : (0 : Int) < 9); omega
  have k0 : 0 ≤ Int.fmod (lawAt ns 3) 9 := fmod_lo _ (by decide)
  have k1 : Int.fmod (lawAt ns 3) 9 ≤ 8 := by have := fmod_hi (lawAt ns 3) (by decide : (0 : Int) < 9); omega
  have lms : (octL (lawAt ns 5) (Int.fmod (lawAt ns 2) 9).toNat).length ≤ 8 := by
    rw [octL_length]
    have := fmod_hi (lawAt ns 2) (by decide : (0 : Int) < 9)
    omega
  have lks : (octL (lawAt ns 6) (Int.fmod (Int.fmod (lawAt ns 3) 9) 7).toNat).length ≤ 6 := by
    rw [octL_length]
    have := fmod_hi (Int.fmod (lawAt ns 3) 9) (by decide : (0 : Int) < 7)
    omega
  generalize 1 + Int.fmod (lawAt ns 0) 8 = D at *
  generalize Int.fmod (lawAt ns 1) 9 = B at *
  generalize octL (lawAt ns 5) (Int.fmod (lawAt ns 2) 9).toNat = ms at *
  generalize octL (lawAt ns 6) (Int.fmod (Int.fmod (lawAt ns 3) 9) 7).toNat = ks at *
  generalize Int.fmod (lawAt ns 3) 9 = kd at *
  generalize Int.fmod (lawAt ns 7) 4 = wy at *
  delta bodL bod462 takeB envL sco462 takeS mW
  refine wpC_execs_cons (wpC_If (wpC_of ?_))
  k_steps
  unfold Halt
  split
  · refine wpC_of (way0_spec F N hO hO2 hL X T e1 hl hi hlen lms (by rw [← KBw.ints_length, e2]; exact lks) d0 d1 b0 b1 k0 k1 (by omega) (by omega) fun h6 tk6 g6 k6 x6 => ?_)
    exact hret _ _ _ k6 x6
  · refine wpC_execs_nil ?_
    (try dsimp only)
    refine wpC_execs_cons (wpC_If (wpC_of ?_))
    k_steps
    unfold Halt
    split
    · refine way3_spec F N hO hO2 hL X T e1 e2 hl hi hlen (by omega) (by omega) (by omega) (by omega) fun h6 tk6 g6 k6 x6 => ?_
      exact hret _ _ _ k6 x6
    · refine wpC_execs_nil ?_
      (try dsimp only)
      refine wpC_of (way12_spec F N hO hO2 hL X T e1 e2 hl hi hlen lms (by omega) d0 d1 b0 b1 (by omega) (by omega) fun h6 tk6 g6 k6 x6 => ?_)
      exact hret _ _ _ k6 x6
end
example : True := by w_top off; first | walk1 | trivial
section
theorem oldK_end {h h' : Heap} (hT : TabsAt [(425, 421), (55, 51), (264, 262)] h) (k : Kept (hideAll h [421, 51, 262]) h') (x : EndT h') : OldK h h' := by
  have one : ∀ c P, (c, P) ∈ [((425 : Addr), (421 : Addr)), (55, 51), (264, 262)] → ∀ o, h.get? P = some o → (∃ ps, h'.get? P = some (tabObj ps)) → asItWas h h' P o := by
    intro c P hm o e ⟨ps, hP⟩
    have e2 := (hT _ hm).2
    dsimp only at e2
    rw [e] at e2
    cases e2
    exact .inr (.inl ⟨((hT _ hm).1.tab (hT _ hm).2).isCodeTable, rfl, #[], ps, rfl, by rw [Array.empty_append]; exact hP⟩)
  refine ⟨fun b o e => ?_, fun b o e => ?_⟩
  · by_cases h1 : b = 421
    · subst h1; exact one 425 421 (by simp) o e x.1
    · by_cases h2 : b = 51
      · subst h2; exact one 55 51 (by simp) o e x.2.1
      · by_cases h3 : b = 262
        · subst h3; exact one 264 262 (by simp) o e x.2.2
        · exact .inl (k b o (hideAll_get _ e (by simp [h1, h2, h3])))
  · by_cases h1 : b = 421
    · subst h1; exact ⟨_, x.1.choose_spec⟩
    · by_cases h2 : b = 51
      · subst h2; exact ⟨_, x.2.1.choose_spec⟩
      · by_cases h3 : b = 262
        · subst h3; exact ⟨_, x.2.2.choose_spec⟩
        · exact ⟨o, k b o (hideAll_get _ e (by simp [h1, h2, h3]))⟩
theorem law_good {cl : Str → Option Addr} {mean' : ExcName → Option Value} {vs : List Int} {s₁ s' : Shared} (ho : OldK s₁.heap s'.heap) (hos : s'.os = s₁.os) (hb : AllBare s'.gens) :
    GoodWG PySem.Challenge.rw_lh0033_01.row.claim cl mean' [ofPy (PyData.list (vs.map PyData.int))] s₁ (Except.ok (Flow.ret (.bool true))) s' := by
  refine ⟨.inl ⟨.bool true, .bool true, [], rfl, fun _ => rfl, ?_, ?_, fun _ => ⟨List.nodup_nil, fun _ h => nomatch h⟩⟩, ho, hos, hb⟩
  · exact .bool _
  · wrow_post
set_option maxHeartbeats 2000000 in
theorem law_walk {q : Program} {lo : List Str} {lv : List (Str × WData)} {d : DefRec} {kwd : List (Str × Expr)} (hn : d.name = Str.ofString "law") :
    WalkO q lo (XL q lv) ((kHook K2 Kas Kas_is).says) PySem.Challenge.rw_lh0033_01.row.toRowW d kwd callG := by
  intro w s₀ s₁ mg mb G Y fa o pm cd doc dV kV ho hd hcd hD hmg hg args vals as hpre hlay hrd hwl hlo
  have KX := kIn_of Y
  refine Ground.open G ?_
  intro T B D TE TW
  have e462 : mg (Str.ofString "law") = some (.ref 462) := mg_of KX T.g (by kernel_rfl)
  rw [hn, e462] at hmg
  cases hmg
  have X := K_of_K2 KX
  have z421 : s₁.heap.get? 421 = some (tabObj #[]) := KX 421 _ (by kernel_rfl)
  have z51 : s₁.heap.get? 51 = some (tabObj #[]) := KX 51 _ (by kernel_rfl)
  have z262 : s₁.heap.get? 262 = some (tabObj #[]) := KX 262 _ (by kernel_rfl)
  have hT : TabsAt [(425, 421), (55, 51), (264, 262)] s₁.heap := by
    intro q hq
    simp only [List.mem_cons, List.not_mem_nil, or_false] at hq
    rcases hq with rfl | rfl | rfl
    · exact ⟨code425 X, z421⟩
    · exact ⟨code55 X, z51⟩
    · exact ⟨code264 X, z262⟩
  have X' : (K w.params).In (hideAll s₁.heap [421, 51, 262]) := ghost_K hT X (by kernel_rfl)
  have T' := ghost_top hT T
  clear ho hd hcd hD hn B D TE TW G Y
  wrow_args hpre hlay hrd hwl hlo
  rename Heap.IsList _ _ _ => hl
  rename IntsAre _ _ => hi
  rename ¬ _ => hlen
  refine wpAny_callG ?_ (law_good (.of_keep fun _ _ e => e) rfl (.of_eq hg))
  show wpC (model PySem.Challenge.pw_lh0033_01 w) (Ar (1 + claimMargin) 4 (some []) []) _ _ _ _
  refine law_spec (p := topProg) X' T' z421 z51 z262 ⟨#[], rfl, trivial⟩ ⟨#[], rfl, trivial⟩ (ghost_list hT hl) hi (by omega) (by decide +kernel) (by decide +kernel) fun h' tk' g' k e => ?_
  exact law_good (oldK_end hT k e) rfl (g'.2 (.of_eq hg))
end
end
end Mine
end
end
open PySem PySem.W PyProof.Rows PySem.Calls
set_option maxRecDepth 100000
theorem Mine.head.tw10005452208157733855 : True := trivial
theorem Mine.head.tw10015159338476511836 : True := trivial
theorem Mine.head.tw10018764681926925449 : True := trivial
theorem Mine.head.tw10021064610941686981 : True := trivial
theorem Mine.head.tw10059252607514160932 : True := trivial
theorem Mine.head.tw10079960370226730655 : True := trivial
theorem Mine.head.tw10242447542790323104 : True := trivial
theorem Mine.head.tw10253174241230309411 : True := trivial
theorem Mine.head.tw10258521583956687137 : True := trivial
theorem Mine.head.tw10261356005730403935 : True := trivial
theorem Mine.head.tw10265929125382437317 : True := trivial
theorem Mine.head.tw10270352894671993868 : True := trivial
theorem Mine.head.tw1030536996053982578 : True := trivial
theorem Mine.head.tw10356212845559719233 : True := trivial
theorem Mine.head.tw10366927770000222440 : True := trivial
theorem Mine.head.tw10431609616501453582 : True := trivial
theorem Mine.head.tw10467814448475477596 : True := trivial
theorem Mine.head.tw10504981510240967646 : True := trivial
theorem Mine.head.tw10533634037010066435 : True := trivial
theorem Mine.head.tw1062042127530464391 : True := trivial
theorem Mine.head.tw10668533816033670360 : True := trivial
theorem Mine.head.tw10706776884845955466 : True := trivial
theorem Mine.head.tw10730805705081004914 : True := trivial
theorem Mine.head.tw10786079294511566085 : True := trivial
theorem Mine.head.tw10812213935944405949 : True := trivial
theorem Mine.head.tw1082313596108445148 : True := trivial
theorem Mine.head.tw10840385229135970747 : True := trivial
theorem Mine.head.tw10865165270600546614 : True := trivial
theorem Mine.head.tw10875119458065257276 : True := trivial
theorem Mine.head.tw10898857373019930491 : True := trivial
theorem Mine.head.tw10900948863051656163 : True := trivial
theorem Mine.head.tw10988817232074504935 : True := trivial
theorem Mine.head.tw11005904730967762025 : True := trivial
theorem Mine.head.tw11063524718261073790 : True := trivial
theorem Mine.head.tw11097941207591946120 : True := trivial
theorem Mine.head.tw11105056867450500199 : True := trivial
theorem Mine.head.tw11124748197601291601 : True := trivial
theorem Mine.head.tw11194998557105285118 : True := trivial
theorem Mine.head.tw11280357031166471375 : True := trivial
theorem Mine.head.tw11296743742662292762 : True := trivial
theorem Mine.head.tw11308087075614649832 : True := trivial
theorem Mine.head.tw1134157569726261602 : True := trivial
theorem Mine.head.tw11426403942048686318 : True := trivial
theorem Mine.head.tw11434997419882176723 : True := trivial
theorem Mine.head.tw11485113708198979986 : True := trivial
theorem Mine.head.tw11544532188706048022 : True := trivial
theorem Mine.head.tw11582096051123008839 : True := trivial
theorem Mine.head.tw11628534518673281344 : True := trivial
theorem Mine.head.tw11714945338242495837 : True := trivial
theorem Mine.head.tw11770459041652445329 : True := trivial
theorem Mine.head.tw11821203517306503961 : True := trivial
theorem Mine.head.tw11862927689305589065 : True := trivial
theorem Mine.head.tw11923155195566972133 : True := trivial
theorem Mine.head.tw11925700103697007601 : True := trivial
theorem Mine.head.tw11988142204041823098 : True := trivial
theorem Mine.head.tw12024539317367501503 : True := trivial
theorem Mine.head.tw12032222614953749359 : True := trivial
theorem Mine.head.tw12043669396524033845 : True := trivial
theorem Mine.head.tw12074249297620881909 : True := trivial
theorem Mine.head.tw1212124681294104184 : True := trivial
theorem Mine.head.tw12147184966966947637 : True := trivial
theorem Mine.head.tw12201952087667049370 : True := trivial
theorem Mine.head.tw12205659690895024086 : True := trivial
theorem Mine.head.tw12207028300977255130 : True := trivial
theorem Mine.head.tw1224924573807776437 : True := trivial
theorem Mine.head.tw12287978374625458572 : True := trivial
theorem Mine.head.tw12310735299239354703 : True := trivial
theorem Mine.head.tw12328230846540189838 : True := trivial
theorem Mine.head.tw12330954535739239725 : True := trivial
theorem Mine.head.tw12344544660321961925 : True := trivial
theorem Mine.head.tw12352672977532951062 : True := trivial
theorem Mine.head.tw12359489953124434286 : True := trivial
theorem Mine.head.tw12362083183470981646 : True := trivial
theorem Mine.head.tw12364624919760631829 : True := trivial
theorem Mine.head.tw12398312691204496596 : True := trivial
theorem Mine.head.tw12460202669355646752 : True := trivial
theorem Mine.head.tw12472887615940459650 : True := trivial
theorem Mine.head.tw12475708393154427166 : True := trivial
theorem Mine.head.tw12601080634535202701 : True := trivial
theorem Mine.head.tw12604462930493870256 : True := trivial
theorem Mine.head.tw12695399030622205104 : True := trivial
theorem Mine.head.tw12741294794224977040 : True := trivial
theorem Mine.head.tw12763952150808568291 : True := trivial
theorem Mine.head.tw1276956409769668328 : True := trivial
theorem Mine.head.tw12773685731770592110 : True := trivial
theorem Mine.head.tw12822298378996975857 : True := trivial
theorem Mine.head.tw12851702773856589430 : True := trivial
theorem Mine.head.tw12865059321931465230 : True := trivial
theorem Mine.head.tw12870424476946447624 : True := trivial
theorem Mine.head.tw12998212659555988865 : True := trivial
theorem Mine.head.tw13078646160514809887 : True := trivial
theorem Mine.head.tw13086575352542018947 : True := trivial
theorem Mine.head.tw13137911371727378231 : True := trivial
theorem Mine.head.tw1315816938146588887 : True := trivial
theorem Mine.head.tw13198292447841614426 : True := trivial
theorem Mine.head.tw13199516396595161752 : True := trivial
theorem Mine.head.tw1319983325249436295 : True := trivial
theorem Mine.head.tw13227620805987009915 : True := trivial
theorem Mine.head.tw13246386896891170512 : True := trivial
theorem Mine.head.tw13276723143375012678 : True := trivial
theorem Mine.head.tw13277248329175295865 : True := trivial
theorem Mine.head.tw13294958713779813728 : True := trivial
theorem Mine.head.tw13295082483830516422 : True := trivial
theorem Mine.head.tw13295774097974887486 : True := trivial
theorem Mine.head.tw13337238644230332656 : True := trivial
theorem Mine.head.tw13353151263460963528 : True := trivial
theorem Mine.head.tw13357441389134331599 : True := trivial
theorem Mine.head.tw13412022041919118725 : True := trivial
theorem Mine.head.tw13478637309914159250 : True := trivial
theorem Mine.head.tw13508044439285423174 : True := trivial
theorem Mine.head.tw13510609219080548989 : True := trivial
theorem Mine.head.tw13537664574400122534 : True := trivial
theorem Mine.head.tw13585267454733459922 : True := trivial
theorem Mine.head.tw13605870324054321959 : True := trivial
theorem Mine.head.tw13637325136056909300 : True := trivial
theorem Mine.head.tw13653928888864918839 : True := trivial
theorem Mine.head.tw13689084217373910675 : True := trivial
theorem Mine.head.tw13743032657059413451 : True := trivial
theorem Mine.head.tw13801937863458859944 : True := trivial
theorem Mine.head.tw13896987355042952010 : True := trivial
theorem Mine.head.tw1389810093214676884 : True := trivial
theorem Mine.head.tw13906610036690215845 : True := trivial
theorem Mine.head.tw13942192884097748152 : True := trivial
theorem Mine.head.tw13954853420313727417 : True := trivial
theorem Mine.head.tw13955511503576765797 : True := trivial
theorem Mine.head.tw13986843968525588388 : True := trivial
theorem Mine.head.tw13988103294471073821 : True := trivial
theorem Mine.head.tw140066278072042493 : True := trivial
theorem Mine.head.tw14028522991509751376 : True := trivial
theorem Mine.head.tw14112051064653734678 : True := trivial
theorem Mine.head.tw14139502460874162764 : True := trivial
theorem Mine.head.tw14139617269561922093 : True := trivial
theorem Mine.head.tw14149427978524627653 : True := trivial
theorem Mine.head.tw14168692526580214153 : True := trivial
theorem Mine.head.tw14195316510222423288 : True := trivial
theorem Mine.head.tw14234965402570480558 : True := trivial
theorem Mine.head.tw14393718171448925343 : True := trivial
theorem Mine.head.tw14417885227837004991 : True := trivial
theorem Mine.head.tw14432977821161478157 : True := trivial
theorem Mine.head.tw14492117785962260688 : True := trivial
theorem Mine.head.tw14512941343882779238 : True := trivial
theorem Mine.head.tw14527164170590304321 : True := trivial
theorem Mine.head.tw14531177953140590962 : True := trivial
theorem Mine.head.tw14628233357713752721 : True := trivial
theorem Mine.head.tw1463646239528298992 : True := trivial
theorem Mine.head.tw14643560169476415855 : True := trivial
theorem Mine.head.tw14643959010103036307 : True := trivial
theorem Mine.head.tw14667470093908496907 : True := trivial
theorem Mine.head.tw14676189674455941282 : True := trivial
theorem Mine.head.tw14679116673082234219 : True := trivial
theorem Mine.head.tw14699528089545365996 : True := trivial
theorem Mine.head.tw14720509044617813951 : True := trivial
theorem Mine.head.tw14744981736328886265 : True := trivial
theorem Mine.head.tw14788773977795034992 : True := trivial
theorem Mine.head.tw14842460003800876886 : True := trivial
theorem Mine.head.tw14877080517539528568 : True := trivial
theorem Mine.head.tw14882813523228863612 : True := trivial
theorem Mine.head.tw14909605222495392915 : True := trivial
theorem Mine.head.tw14956133685725647455 : True := trivial
theorem Mine.head.tw1495726902847802894 : True := trivial
theorem Mine.head.tw14969872817325187116 : True := trivial
theorem Mine.head.tw14982685227137828758 : True := trivial
theorem Mine.head.tw1499353310998574721 : True := trivial
theorem Mine.head.tw14999265807660949796 : True := trivial
theorem Mine.head.tw1503407388533364548 : True := trivial
theorem Mine.head.tw15035418422258542911 : True := trivial
theorem Mine.head.tw15037083628117588352 : True := trivial
theorem Mine.head.tw15064752311394979489 : True := trivial
theorem Mine.head.tw15112835437128306455 : True := trivial
theorem Mine.head.tw15149402430504572791 : True := trivial
theorem Mine.head.tw1519320592345488741 : True := trivial
theorem Mine.head.tw15204471325056678010 : True := trivial
theorem Mine.head.tw1522823579158628613 : True := trivial
theorem Mine.head.tw15253846138512369154 : True := trivial
theorem Mine.head.tw15296082917334920728 : True := trivial
theorem Mine.head.tw15305915472762889579 : True := trivial
theorem Mine.head.tw15326552575505426906 : True := trivial
theorem Mine.head.tw1533708320680988978 : True := trivial
theorem Mine.head.tw15410735652082386980 : True := trivial
theorem Mine.head.tw15436542981012472205 : True := trivial
theorem Mine.head.tw15468718075485040107 : True := trivial
theorem Mine.head.tw15501141472565082077 : True := trivial
theorem Mine.head.tw15506723302920939300 : True := trivial
theorem Mine.head.tw15510365090734361527 : True := trivial
theorem Mine.head.tw15520248196984853422 : True := trivial
theorem Mine.head.tw15539854500240908086 : True := trivial
theorem Mine.head.tw15604011560834605598 : True := trivial
theorem Mine.head.tw15638870477510070732 : True := trivial
theorem Mine.head.tw15647610678857825673 : True := trivial
theorem Mine.head.tw15656768269340197940 : True := trivial
theorem Mine.head.tw15719719898424109726 : True := trivial
theorem Mine.head.tw15735840784391694233 : True := trivial
theorem Mine.head.tw15782939476341012554 : True := trivial
theorem Mine.head.tw15785421084128741142 : True := trivial
theorem Mine.head.tw15794997505209512671 : True := trivial
theorem Mine.head.tw15796087645652482245 : True := trivial
theorem Mine.head.tw15840312062823119879 : True := trivial
theorem Mine.head.tw15894371620910866019 : True := trivial
theorem Mine.head.tw15895748673760503845 : True := trivial
theorem Mine.head.tw15967466079928408925 : True := trivial
theorem Mine.head.tw16014373381606645092 : True := trivial
theorem Mine.head.tw16031315777459398524 : True := trivial
theorem Mine.head.tw16072502192527678464 : True := trivial
theorem Mine.head.tw16106133796442146334 : True := trivial
theorem Mine.head.tw16111715859725283846 : True := trivial
theorem Mine.head.tw16128420640991077102 : True := trivial
theorem Mine.head.tw16172288393029767808 : True := trivial
theorem Mine.head.tw16172356507618199906 : True := trivial
theorem Mine.head.tw1618804561499322139 : True := trivial
theorem Mine.head.tw1620002657737552111 : True := trivial
theorem Mine.head.tw1626232751844553403 : True := trivial
theorem Mine.head.tw16278871845796110771 : True := trivial
theorem Mine.head.tw1643771367246577777 : True := trivial
theorem Mine.head.tw16441004959143088680 : True := trivial
theorem Mine.head.tw16468569829591719541 : True := trivial
theorem Mine.head.tw16474958459275807246 : True := trivial
theorem Mine.head.tw16572314662081343053 : True := trivial
theorem Mine.head.tw16640130746408290383 : True := trivial
theorem Mine.head.tw16659920880120507502 : True := trivial
theorem Mine.head.tw16714887947964762639 : True := trivial
theorem Mine.head.tw1673358830478937286 : True := trivial
theorem Mine.head.tw16769997242578385675 : True := trivial
theorem Mine.head.tw16800043278716471037 : True := trivial
theorem Mine.head.tw16812575187878004724 : True := trivial
theorem Mine.head.tw16817119741492734445 : True := trivial
theorem Mine.head.tw16847831306532103052 : True := trivial
theorem Mine.head.tw16871623187472473471 : True := trivial
theorem Mine.head.tw16874305072444578374 : True := trivial
theorem Mine.head.tw1689142752476645926 : True := trivial
theorem Mine.head.tw16894197260953374720 : True := trivial
theorem Mine.head.tw16922147877168347812 : True := trivial
theorem Mine.head.tw16966009324859112401 : True := trivial
theorem Mine.head.tw16984083398119652359 : True := trivial
theorem Mine.head.tw16997897962222511 : True := trivial
theorem Mine.head.tw17002534310236347988 : True := trivial
theorem Mine.head.tw17014734716931888790 : True := trivial
theorem Mine.head.tw17015032458148788900 : True := trivial
theorem Mine.head.tw17017319662998615 : True := trivial
theorem Mine.head.tw17113217626458354986 : True := trivial
theorem Mine.head.tw17173245716831642929 : True := trivial
theorem Mine.head.tw17188972718952451159 : True := trivial
theorem Mine.head.tw17197444120159719569 : True := trivial
theorem Mine.head.tw17243387458012846398 : True := trivial
theorem Mine.head.tw17265401458761052179 : True := trivial
theorem Mine.head.tw17275705279478898512 : True := trivial
theorem Mine.head.tw1729498619401302055 : True := trivial
theorem Mine.head.tw17297054508065495485 : True := trivial
theorem Mine.head.tw17348764703882912863 : True := trivial
theorem Mine.head.tw17362218986543327160 : True := trivial
theorem Mine.head.tw17411354535832351560 : True := trivial
theorem Mine.head.tw174166394780034911 : True := trivial
theorem Mine.head.tw17453365369857097546 : True := trivial
theorem Mine.head.tw1748456618969930982 : True := trivial
theorem Mine.head.tw17486074103640542121 : True := trivial
theorem Mine.head.tw17508272824862286709 : True := trivial
theorem Mine.head.tw17539234302018041193 : True := trivial
theorem Mine.head.tw17552560543380974038 : True := trivial
theorem Mine.head.tw17577399041416155939 : True := trivial
theorem Mine.head.tw17608190574486352970 : True := trivial
theorem Mine.head.tw17646911460466567920 : True := trivial
theorem Mine.head.tw17674571679781333832 : True := trivial
theorem Mine.head.tw17698105195316432488 : True := trivial
theorem Mine.head.tw17725469503822016867 : True := trivial
theorem Mine.head.tw17782148633632673465 : True := trivial
theorem Mine.head.tw17789423225533864492 : True := trivial
theorem Mine.head.tw17799944620789180261 : True := trivial
theorem Mine.head.tw17821319399108415887 : True := trivial
theorem Mine.head.tw17826015225549371706 : True := trivial
theorem Mine.head.tw17844492200522320778 : True := trivial
theorem Mine.head.tw17905491414393134947 : True := trivial
theorem Mine.head.tw17988201657351507238 : True := trivial
theorem Mine.head.tw18051680202136193954 : True := trivial
theorem Mine.head.tw18080951475816111786 : True := trivial
theorem Mine.head.tw18123143868385100064 : True := trivial
theorem Mine.head.tw18260194641540637818 : True := trivial
theorem Mine.head.tw1832916270232011604 : True := trivial
theorem Mine.head.tw18332285231265401824 : True := trivial
theorem Mine.head.tw18379175249704201485 : True := trivial
theorem Mine.head.tw18384547517478447814 : True := trivial
theorem Mine.head.tw18416563613846182222 : True := trivial
theorem Mine.head.tw18433677622606106133 : True := trivial
theorem Mine.head.tw1852205218256702202 : True := trivial
theorem Mine.head.tw1858285994304674589 : True := trivial
theorem Mine.head.tw1909714482019496454 : True := trivial
theorem Mine.head.tw1917425121527220963 : True := trivial
theorem Mine.head.tw1919001801439425371 : True := trivial
theorem Mine.head.tw1937370526825066196 : True := trivial
theorem Mine.head.tw1939405473400901271 : True := trivial
theorem Mine.head.tw1992862871153497056 : True := trivial
theorem Mine.head.tw2096541523181747872 : True := trivial
theorem Mine.head.tw2154566216772986472 : True := trivial
theorem Mine.head.tw2172669909848549399 : True := trivial
theorem Mine.head.tw2203363585012173787 : True := trivial
theorem Mine.head.tw2249667046024356820 : True := trivial
theorem Mine.head.tw2260579728952749127 : True := trivial
theorem Mine.head.tw2298694737197419510 : True := trivial
theorem Mine.head.tw2326617092838664518 : True := trivial
theorem Mine.head.tw2350586252961548244 : True := trivial
theorem Mine.head.tw2400818531096893172 : True := trivial
theorem Mine.head.tw2428695696106030784 : True := trivial
theorem Mine.head.tw2437478716016495240 : True := trivial
theorem Mine.head.tw2441957057352720082 : True := trivial
theorem Mine.head.tw2491421050496283774 : True := trivial
theorem Mine.head.tw2518057956044344595 : True := trivial
theorem Mine.head.tw2525317073905713282 : True := trivial
theorem Mine.head.tw2554682012703037696 : True := trivial
theorem Mine.head.tw2581250870941146908 : True := trivial
theorem Mine.head.tw262713603470380999 : True := trivial
theorem Mine.head.tw2694075680205673411 : True := trivial
theorem Mine.head.tw2728595385866086531 : True := trivial
theorem Mine.head.tw2753283235347674219 : True := trivial
theorem Mine.head.tw2825341998796452840 : True := trivial
theorem Mine.head.tw2876011056497122456 : True := trivial
theorem Mine.head.tw2994366008111725845 : True := trivial
theorem Mine.head.tw300626226527484142 : True := trivial
theorem Mine.head.tw3083302935323014018 : True := trivial
theorem Mine.head.tw3088210815446039105 : True := trivial
theorem Mine.head.tw3089916443595474862 : True := trivial
theorem Mine.head.tw3103639331685909893 : True := trivial
theorem Mine.head.tw315434073420411817 : True := trivial
theorem Mine.head.tw3160712208675142370 : True := trivial
theorem Mine.head.tw3368030927266983236 : True := trivial
theorem Mine.head.tw3368474557548986910 : True := trivial
theorem Mine.head.tw3453547403478019728 : True := trivial
theorem Mine.head.tw3496171461512900480 : True := trivial
theorem Mine.head.tw3501597964444990463 : True := trivial
theorem Mine.head.tw3512634313551410195 : True := trivial
theorem Mine.head.tw3547030090768783262 : True := trivial
theorem Mine.head.tw3547240966391284428 : True := trivial
theorem Mine.head.tw3556061257289618393 : True := trivial
theorem Mine.head.tw3581614266968435656 : True := trivial
theorem Mine.head.tw3615648651819825313 : True := trivial
theorem Mine.head.tw3665506230870052707 : True := trivial
theorem Mine.head.tw3688799982635324794 : True := trivial
theorem Mine.head.tw3690969761935527329 : True := trivial
theorem Mine.head.tw3696042808614700290 : True := trivial
theorem Mine.head.tw3715584954343283195 : True := trivial
theorem Mine.head.tw3746228215898030841 : True := trivial
theorem Mine.head.tw3749026756887285471 : True := trivial
theorem Mine.head.tw3790771472595898956 : True := trivial
theorem Mine.head.tw3794523003379204399 : True := trivial
theorem Mine.head.tw3869590956505411354 : True := trivial
theorem Mine.head.tw3944913497352057107 : True := trivial
theorem Mine.head.tw3973953319845086491 : True := trivial
theorem Mine.head.tw3980653432952411973 : True := trivial
theorem Mine.head.tw3986194592780655508 : True := trivial
theorem Mine.head.tw3991279037241028524 : True := trivial
theorem Mine.head.tw4009957668330374740 : True := trivial
theorem Mine.head.tw4017301010375394790 : True := trivial
theorem Mine.head.tw4023466491090337370 : True := trivial
theorem Mine.head.tw4053978428183960486 : True := trivial
theorem Mine.head.tw4063747431996464497 : True := trivial
theorem Mine.head.tw4160124254940468481 : True := trivial
theorem Mine.head.tw4196546014268931301 : True := trivial
theorem Mine.head.tw4235852798576303577 : True := trivial
theorem Mine.head.tw4273228799998304602 : True := trivial
theorem Mine.head.tw4307260679431091991 : True := trivial
theorem Mine.head.tw4311042196063409733 : True := trivial
theorem Mine.head.tw4415685298772064003 : True := trivial
theorem Mine.head.tw4433315090154635215 : True := trivial
theorem Mine.head.tw44622916816846810 : True := trivial
theorem Mine.head.tw4483413254912295219 : True := trivial
theorem Mine.head.tw4528443807372415038 : True := trivial
theorem Mine.head.tw4543076655600059902 : True := trivial
theorem Mine.head.tw4607607821588926596 : True := trivial
theorem Mine.head.tw466721876749952763 : True := trivial
theorem Mine.head.tw467416434755642258 : True := trivial
theorem Mine.head.tw4693820183103290663 : True := trivial
theorem Mine.head.tw4708111749353345164 : True := trivial
theorem Mine.head.tw4709128311485490483 : True := trivial
theorem Mine.head.tw4746297304354101679 : True := trivial
theorem Mine.head.tw4764554697811233 : True := trivial
theorem Mine.head.tw4834694072379752904 : True := trivial
theorem Mine.head.tw4839655697589452165 : True := trivial
theorem Mine.head.tw4857777746444614323 : True := trivial
theorem Mine.head.tw4945251732147069371 : True := trivial
theorem Mine.head.tw4964814941381164201 : True := trivial
theorem Mine.head.tw4965378191221513410 : True := trivial
theorem Mine.head.tw4972248218790579157 : True := trivial
theorem Mine.head.tw497287684792784471 : True := trivial
theorem Mine.head.tw4975070653579243887 : True := trivial
theorem Mine.head.tw5015311536963163689 : True := trivial
theorem Mine.head.tw5019597260055213698 : True := trivial
theorem Mine.head.tw5096742575497195690 : True := trivial
theorem Mine.head.tw5104563664521345299 : True := trivial
theorem Mine.head.tw5140934472235413692 : True := trivial
theorem Mine.head.tw5141578139466067413 : True := trivial
theorem Mine.head.tw5187041380464763778 : True := trivial
theorem Mine.head.tw5262747137488180581 : True := trivial
theorem Mine.head.tw5274623360512300857 : True := trivial
theorem Mine.head.tw5319049981483164881 : True := trivial
theorem Mine.head.tw532055438628499158 : True := trivial
theorem Mine.head.tw533756555076263647 : True := trivial
theorem Mine.head.tw5346772772824661884 : True := trivial
theorem Mine.head.tw5353729903917744248 : True := trivial
theorem Mine.head.tw5363715690607933 : True := trivial
theorem Mine.head.tw5401097623525119610 : True := trivial
theorem Mine.head.tw5438144065070405397 : True := trivial
theorem Mine.head.tw5467695095851852608 : True := trivial
theorem Mine.head.tw5479459121986351116 : True := trivial
theorem Mine.head.tw5485833197653379195 : True := trivial
theorem Mine.head.tw5487235932777146282 : True := trivial
theorem Mine.head.tw5501060405047882677 : True := trivial
theorem Mine.head.tw5506250874072839755 : True := trivial
theorem Mine.head.tw5507133844067935933 : True := trivial
theorem Mine.head.tw5508695066786827253 : True := trivial
theorem Mine.head.tw5515381820778694223 : True := trivial
theorem Mine.head.tw5575573150383494877 : True := trivial
theorem Mine.head.tw5593727005144783397 : True := trivial
theorem Mine.head.tw5599997604879368025 : True := trivial
theorem Mine.head.tw5629256929840616583 : True := trivial
theorem Mine.head.tw5638995163158488052 : True := trivial
theorem Mine.head.tw5723944856813171866 : True := trivial
theorem Mine.head.tw5737951250597237232 : True := trivial
theorem Mine.head.tw573967197379146972 : True := trivial
theorem Mine.head.tw5764021196749891206 : True := trivial
theorem Mine.head.tw5797013207949663412 : True := trivial
theorem Mine.head.tw5870146547769353613 : True := trivial
theorem Mine.head.tw5889901403972433656 : True := trivial
theorem Mine.head.tw5927865893512547691 : True := trivial
theorem Mine.head.tw5944575059761466720 : True := trivial
theorem Mine.head.tw5973763720392745831 : True := trivial
theorem Mine.head.tw5986637957666399235 : True := trivial
theorem Mine.head.tw604627371996746742 : True := trivial
theorem Mine.head.tw6053349399257934933 : True := trivial
theorem Mine.head.tw6053997905714604814 : True := trivial
theorem Mine.head.tw6079359036626576793 : True := trivial
theorem Mine.head.tw6085824867444503733 : True := trivial
theorem Mine.head.tw6088685845774392931 : True := trivial
theorem Mine.head.tw6100774026682323163 : True := trivial
theorem Mine.head.tw6110071263904590700 : True := trivial
theorem Mine.head.tw6121141971511671821 : True := trivial
theorem Mine.head.tw6161856959107265637 : True := trivial
theorem Mine.head.tw6207834228037699737 : True := trivial
theorem Mine.head.tw6211381574409162282 : True := trivial
theorem Mine.head.tw6212921109956642855 : True := trivial
theorem Mine.head.tw6237802210402583469 : True := trivial
theorem Mine.head.tw6240353410654795137 : True := trivial
theorem Mine.head.tw6293145778248850116 : True := trivial
theorem Mine.head.tw6388477656530123435 : True := trivial
theorem Mine.head.tw6426539377367359892 : True := trivial
theorem Mine.head.tw6489421142724028100 : True := trivial
theorem Mine.head.tw6507506987150044280 : True := trivial
theorem Mine.head.tw6521490308693473283 : True := trivial
theorem Mine.head.tw6587087628758450585 : True := trivial
theorem Mine.head.tw6588589085864783938 : True := trivial
theorem Mine.head.tw6640010369347007910 : True := trivial
theorem Mine.head.tw66618190712790079 : True := trivial
theorem Mine.head.tw6684681932595197013 : True := trivial
theorem Mine.head.tw6684978435548883818 : True := trivial
theorem Mine.head.tw6737735255597943219 : True := trivial
theorem Mine.head.tw6836605351468522007 : True := trivial
theorem Mine.head.tw6846597200999610202 : True := trivial
theorem Mine.head.tw6846866878297920324 : True := trivial
theorem Mine.head.tw6857060684267632606 : True := trivial
theorem Mine.head.tw6871339299614917876 : True := trivial
theorem Mine.head.tw6880043348581005364 : True := trivial
theorem Mine.head.tw6889739017440866108 : True := trivial
theorem Mine.head.tw6891450509433485068 : True := trivial
theorem Mine.head.tw6973584914630602586 : True := trivial
theorem Mine.head.tw7013799640231393816 : True := trivial
theorem Mine.head.tw7096138990903361605 : True := trivial
theorem Mine.head.tw7161073391023584161 : True := trivial
theorem Mine.head.tw7253898381062576733 : True := trivial
theorem Mine.head.tw7277520189549225825 : True := trivial
theorem Mine.head.tw7287109101882759415 : True := trivial
theorem Mine.head.tw7313386461004707312 : True := trivial
theorem Mine.head.tw733406405333840765 : True := trivial
theorem Mine.head.tw7404141018258913797 : True := trivial
theorem Mine.head.tw742351954350328859 : True := trivial
theorem Mine.head.tw7450023128482652576 : True := trivial
theorem Mine.head.tw7494366503370351645 : True := trivial
theorem Mine.head.tw7498250532897285284 : True := trivial
theorem Mine.head.tw7512725033676591148 : True := trivial
theorem Mine.head.tw7523532297153676066 : True := trivial
theorem Mine.head.tw7526775705450560304 : True := trivial
theorem Mine.head.tw7599496313472250701 : True := trivial
theorem Mine.head.tw7658410731251134818 : True := trivial
theorem Mine.head.tw7661765248129044261 : True := trivial
theorem Mine.head.tw7680146299302783591 : True := trivial
theorem Mine.head.tw7688317290187622652 : True := trivial
theorem Mine.head.tw7704315382344345624 : True := trivial
theorem Mine.head.tw7732209734871044160 : True := trivial
theorem Mine.head.tw7758381527925395934 : True := trivial
theorem Mine.head.tw7789450098604059249 : True := trivial
theorem Mine.head.tw7805308653706644653 : True := trivial
theorem Mine.head.tw7833285031277912329 : True := trivial
theorem Mine.head.tw7876399200375917224 : True := trivial
theorem Mine.head.tw7924571455212599318 : True := trivial
theorem Mine.head.tw7928285938522686346 : True := trivial
theorem Mine.head.tw7994106446794305319 : True := trivial
theorem Mine.head.tw8035625575855466936 : True := trivial
theorem Mine.head.tw8097174177036852075 : True := trivial
theorem Mine.head.tw8101760021730824546 : True := trivial
theorem Mine.head.tw8159583801465064534 : True := trivial
theorem Mine.head.tw8182079617134344778 : True := trivial
theorem Mine.head.tw8185714761375850791 : True := trivial
theorem Mine.head.tw8187629637223713605 : True := trivial
theorem Mine.head.tw8216834362191484069 : True := trivial
theorem Mine.head.tw8382746154173761051 : True := trivial
theorem Mine.head.tw8402328212356670530 : True := trivial
theorem Mine.head.tw8408249889716310983 : True := trivial
theorem Mine.head.tw8414573866900348196 : True := trivial
theorem Mine.head.tw8451290768687142514 : True := trivial
theorem Mine.head.tw8476099583838051002 : True := trivial
theorem Mine.head.tw851385035628625539 : True := trivial
theorem Mine.head.tw8534208459206503383 : True := trivial
theorem Mine.head.tw8569104457590258164 : True := trivial
theorem Mine.head.tw8603420104599213669 : True := trivial
theorem Mine.head.tw8627200689577751383 : True := trivial
theorem Mine.head.tw8671685427711848851 : True := trivial
theorem Mine.head.tw8715499118904818895 : True := trivial
theorem Mine.head.tw8758324158161630591 : True := trivial
theorem Mine.head.tw8773370040425892893 : True := trivial
theorem Mine.head.tw8812732774380208333 : True := trivial
theorem Mine.head.tw8866670633112419022 : True := trivial
theorem Mine.head.tw8874674299285249911 : True := trivial
theorem Mine.head.tw8912104118211102971 : True := trivial
theorem Mine.head.tw9062998866958442273 : True := trivial
theorem Mine.head.tw9074772780463953568 : True := trivial
theorem Mine.head.tw9082462177598256812 : True := trivial
theorem Mine.head.tw9083612298779875492 : True := trivial
theorem Mine.head.tw9101448428047585222 : True := trivial
theorem Mine.head.tw9103479521544129834 : True := trivial
theorem Mine.head.tw9107825763807709430 : True := trivial
theorem Mine.head.tw9133290819911140118 : True := trivial
theorem Mine.head.tw9142320679590124636 : True := trivial
theorem Mine.head.tw9145527808636388435 : True := trivial
theorem Mine.head.tw9162278640276766204 : True := trivial
theorem Mine.head.tw9186546921256032858 : True := trivial
theorem Mine.head.tw9196398404247428943 : True := trivial
theorem Mine.head.tw9202431907968578930 : True := trivial
theorem Mine.head.tw9214367901419015226 : True := trivial
theorem Mine.head.tw9280153536138602973 : True := trivial
theorem Mine.head.tw9325057278558614444 : True := trivial
theorem Mine.head.tw9325123708862168440 : True := trivial
theorem Mine.head.tw9353324838224930552 : True := trivial
theorem Mine.head.tw9388430590476628193 : True := trivial
theorem Mine.head.tw9464831228461672588 : True := trivial
theorem Mine.head.tw9495540839478616804 : True := trivial
theorem Mine.head.tw9515422150858430662 : True := trivial
theorem Mine.head.tw9625377726130185387 : True := trivial
theorem Mine.head.tw9646481798937456297 : True := trivial
theorem Mine.head.tw9658139154387788515 : True := trivial
theorem Mine.head.tw9702098958229961203 : True := trivial
theorem Mine.head.tw9716329373054682134 : True := trivial
theorem Mine.head.tw9743709737119245314 : True := trivial
theorem Mine.head.tw976808484645153763 : True := trivial
theorem Mine.head.tw9777900189565919194 : True := trivial
theorem Mine.head.tw9820158181544301314 : True := trivial
theorem Mine.head.tw9827913525700040407 : True := trivial
theorem Mine.head.tw9978949632667528635 : True := trivial
theorem Mine.head.tw9984397402777080727 : True := trivial
namespace Mine
set_option maxHeartbeats 8000000 in
theorem head : PySem.Challenge.rw_lh0033_01.Holds := by
  w_on; o_law; o_head (kHook Mine.K2 Mine.Kas Mine.Kas_is); (case hw => w_witness2)
  case hc => exact law_walk rfl
end Mine
theorem PySem.Challenge.cw_lh0033_01_holds : PySem.Challenge.rw_lh0033_01.Holds :=
  Mine.head
