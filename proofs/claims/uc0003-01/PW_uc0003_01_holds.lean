import PyProof.Rows.All
import Wide.All
import OpenK.AllK
import Wide.FinOn
import PySem.Challenge.RW_uc0003_01
set_option Elab.async false
set_option maxRecDepth 100000
set_option linter.unusedVariables false
set_option compiler.extract_closed false
namespace Mine
section
-- the text below was written by wip/GenK.lean (a program of mine) from the model's own run of the top
open PySem PySem.W
noncomputable def stmtAt (i : Nat) : Option Stmt := PySem.Challenge.pw_uc0003_01.main.body[i]?
noncomputable def o2 (P : Params) : Obj := ⟨PySem.Value.none, Option.none, (.dict #[⟨(PyData.keyHash P (.ofString "\x69mport.loaded._sre")), (.str (.ofString "\x69mport.loaded._sre") 183), (.bool Bool.true)⟩, ⟨(PyData.keyHash P (.ofString "class._frozen_importlib.BuiltinImporter")), (.str (.ofString "class._frozen_importlib.BuiltinImporter") 185), (.ref 14)⟩, ⟨(PyData.keyHash P (.ofString "watched.\x69mport")), (.str (.ofString "watched.\x69mport") 206), (.ref 18)⟩, ⟨(PyData.keyHash P (.ofString "class._frozen_importlib.ModuleSpec")), (.str (.ofString "class._frozen_importlib.ModuleSpec") 216), (.ref 22)⟩, ⟨(PyData.keyHash P (.ofString "sys.modules.booked-epoch")), (.str (.ofString "sys.modules.booked-epoch") 245), (.int 3 0)⟩, ⟨(PyData.keyHash P (.ofString "\x69mport.later-laid._sre")), (.str (.ofString "\x69mport.later-laid._sre") 270), (.bool Bool.true)⟩, ⟨(PyData.keyHash P (.ofString "watched.library")), (.str (.ofString "watched.library") 272), (.ref 27)⟩, ⟨(PyData.keyHash P (.ofString "watched.library-objects")), (.str (.ofString "watched.library-objects") 0), (.str (.ofString "\x0c") 0)⟩, ⟨(PyData.keyHash P (.ofString "watched.library-deep._sre")), (.str (.ofString "watched.library-deep._sre") 273), (.str (.ofString "\x04\x00\x00\x0b\x04\x00\x00\x0b\x04\x00\x00\x03\x04\x00\x00\x0b\x08\x04dict\x02") 0)⟩] 9), #[]⟩
noncomputable def o3 (P : Params) : Obj := ⟨(.type "dict"), Option.none, (.dict #[⟨(PyData.keyHash P (.ofString "__name__")), (.str (.ofString "__name__") 165), (.str (.ofString "law_uc0003_01") 513)⟩, ⟨(PyData.keyHash P (.ofString "__doc__")), (.str (.ofString "__doc__") 166), PySem.Value.none⟩, ⟨(PyData.keyHash P (.ofString "__package__")), (.str (.ofString "__package__") 167), PySem.Value.none⟩, ⟨(PyData.keyHash P (.ofString "__loader__")), (.str (.ofString "__loader__") 168), (.builtin "__main__.__loader__#opaque")⟩, ⟨(PyData.keyHash P (.ofString "__spec__")), (.str (.ofString "__spec__") 169), PySem.Value.none⟩, ⟨(PyData.keyHash P (.ofString "__annotations__")), (.str (.ofString "__annotations__") 170), (.ref 6)⟩, ⟨(PyData.keyHash P (.ofString "__builtins__")), (.str (.ofString "__builtins__") 171), (.ref 4)⟩, ⟨(PyData.keyHash P (.ofString "__file__")), (.str (.ofString "__file__") 173), (.str (.ofString "/claim/cut.py") 172)⟩, ⟨(PyData.keyHash P (.ofString "__cached__")), (.str (.ofString "__cached__") 174), PySem.Value.none⟩, ⟨(PyData.keyHash P (.ofString "_sre")), (.str (.ofString "_sre") 275), (.ref 12)⟩, ⟨(PyData.keyHash P (.ofString "_twin_re_1")), (.str (.ofString "_twin_re_1") 299), (.ref 36)⟩, ⟨(PyData.keyHash P (.ofString "_twin_re_2")), (.str (.ofString "_twin_re_2") 341), (.ref 41)⟩, ⟨(PyData.keyHash P (.ofString "CRLF")), (.str (.ofString "CRLF") 343), (.str (.ofString "\x0d\n") 342)⟩, ⟨(PyData.keyHash P (.ofString "quotedata")), (.str (.ofString "quotedata") 350), (.ref 48)⟩, ⟨(PyData.keyHash P (.ofString "_DIV_LIMIT")), (.str (.ofString "_DIV_LIMIT") 354), (.int 4000 353)⟩, ⟨(PyData.keyHash P (.ofString "_div2n1n")), (.str (.ofString "_div2n1n") 371), (.ref 55)⟩, ⟨(PyData.keyHash P (.ofString "_div3n2n")), (.str (.ofString "_div3n2n") 385), (.ref 62)⟩, ⟨(PyData.keyHash P (.ofString "_int2digits")), (.str (.ofString "_int2digits") 396), (.ref 69)⟩, ⟨(PyData.keyHash P (.ofString "_digits2int")), (.str (.ofString "_digits2int") 407), (.ref 76)⟩, ⟨(PyData.keyHash P (.ofString "_divmod_pos")), (.str (.ofString "_divmod_pos") 422), (.ref 83)⟩, ⟨(PyData.keyHash P (.ofString "int_divmod")), (.str (.ofString "int_divmod") 432), (.ref 90)⟩, ⟨(PyData.keyHash P (.ofString "_parse_varint")), (.str (.ofString "_parse_varint") 443), (.ref 97)⟩, ⟨(PyData.keyHash P (.ofString "b1_set")), (.str (.ofString "b1_set") 505), (.ref 105)⟩, ⟨(PyData.keyHash P (.ofString "in_table_b1")), (.str (.ofString "in_table_b1") 512), (.ref 115)⟩, ⟨(PyData.keyHash P (.ofString "_law_heaps")), (.str (.ofString "_law_heaps") 520), (.ref 120)⟩, ⟨(PyData.keyHash P (.ofString "_law_hidden")), (.str (.ofString "_law_hidden") 528), (.ref 127)⟩, ⟨(PyData.keyHash P (.ofString "_law_beside")), (.str (.ofString "_law_beside") 536), (.ref 134)⟩, ⟨(PyData.keyHash P (.ofString "_law_kept")), (.str (.ofString "_law_kept") 546), (.ref 141)⟩, ⟨(PyData.keyHash P (.ofString "_law_numbers")), (.str (.ofString "_law_numbers") 552), (.ref 146)⟩, ⟨(PyData.keyHash P (.ofString "_law_targets")), (.str (.ofString "_law_targets") 558), (.ref 151)⟩, ⟨(PyData.keyHash P (.ofString "_law_book")), (.str (.ofString "_law_book") 564), (.ref 156)⟩, ⟨(PyData.keyHash P (.ofString "_law_posted")), (.str (.ofString "_law_posted") 578), (.ref 163)⟩, ⟨(PyData.keyHash P (.ofString "_law_levels")), (.str (.ofString "_law_levels") 589), (.ref 170)⟩, ⟨(PyData.keyHash P (.ofString "_law_rings")), (.str (.ofString "_law_rings") 599), (.ref 177)⟩, ⟨(PyData.keyHash P (.ofString "_law_walks")), (.str (.ofString "_law_walks") 605), (.ref 182)⟩, ⟨(PyData.keyHash P (.ofString "law")), (.str (.ofString "law") 611), (.ref 187)⟩] 36), #[]⟩
noncomputable def o35 (P : Params) : Obj := ⟨(.type "tuple"), Option.none, (.seq #[(.int 14 0), (.int 4 0), (.int 0 0), (.int 1 0), (.int 1 0), (.int 6 0), (.int 1 0), (.int 16 0), (.int 46 0), (.int 1 0)] 0), #[]⟩
noncomputable def o36 (P : Params) : Obj := ⟨(.type "re.Pattern"), Option.none, (.fields #[(.str (.ofString "(?m)^\\.") 285), (.int 40 298), (.int 0 0), PySem.Value.none, PySem.Value.none, (.ref 35), (.int 0 0)]), #[]⟩
noncomputable def o40 (P : Params) : Obj := ⟨(.type "tuple"), Option.none, (.seq #[(.int 14 0), (.int 9 0), (.int 4 0), (.int 1 0), (.int 2 0), (.int 16 0), (.int 10 0), (.int 16 0), (.int 13 0), (.int 0 0), (.int 7 0), (.int 7 0), (.int 16 0), (.int 13 0), (.int 16 0), (.int 10 0), (.int 15 0), (.int 18 0), (.int 5 0), (.int 16 0), (.int 10 0), (.int 15 0), (.int 13 0), (.int 11 0), (.int 16 0), (.int 13 0), (.int 5 0), (.int 5 0), (.int 0 0), (.int 16 0), (.int 10 0), (.int 1 0), (.int 15 0), (.int 2 0), (.int 0 0), (.int 1 0)] 0), #[]⟩
noncomputable def o41 (P : Params) : Obj := ⟨(.type "re.Pattern"), Option.none, (.fields #[(.str (.ofString "(?:\\r\\n|\\n|\\r(?!\\n))") 301), (.int 32 340), (.int 0 0), PySem.Value.none, PySem.Value.none, (.ref 40), (.int 0 0)]), #[]⟩
noncomputable def o42 (P : Params) : Obj := ⟨(.type "tuple"), Option.none, (.seq #[] 0), #[]⟩
noncomputable def o44 (P : Params) : Obj := ⟨(.type "tuple"), Option.none, (.seq #[(.str (.ofString "data") 347)] 0), #[]⟩
noncomputable def o45 (P : Params) : Obj := ⟨(.type "tuple"), Option.none, (.seq #[] 0), #[]⟩
noncomputable def o47 (P : Params) : Obj := ⟨(.type "code"), Option.none, (.fields #[(.str (.ofString "quotedata") 344), (.str (.ofString "quotedata") 345), (.str (.ofString "/claim/cut.py") 346), (.int 6 0), (.int 1 0), (.int 0 0), (.int 0 0), (.int 3 0), (.ref 42), (.bool Bool.true), (.int 276 0), (.ref 43), PySem.Value.none, (.ref 44), (.ref 45), (.ref 46), (.int 348 0), (.int 6 0), (.str (.ofString "/claim/cut.py") 349)]), #[]⟩
noncomputable abbrev a48 : Arguments := by
  refine (?f : ∀ {nm : Str} {a : Arguments} {b : List Stmt} {ds : List Expr} {ret : Option Expr} {tps : List TypeParam} {sc : Scope} {tsc : Option Scope} {bd : Str} {pos : Pos}, stmtAt 5 = some (.FunctionDef nm a b ds ret tps sc tsc bd pos) → Arguments) rfl
  exact fun {nm a b ds ret tps sc tsc bd pos} _ => a
noncomputable abbrev b48 : List Stmt := by
  refine (?f : ∀ {nm : Str} {a : Arguments} {b : List Stmt} {ds : List Expr} {ret : Option Expr} {tps : List TypeParam} {sc : Scope} {tsc : Option Scope} {bd : Str} {pos : Pos}, stmtAt 5 = some (.FunctionDef nm a b ds ret tps sc tsc bd pos) → List Stmt) rfl
  exact fun {nm a b ds ret tps sc tsc bd pos} _ => b
noncomputable abbrev s48 : Scope := by
  refine (?f : ∀ {nm : Str} {a : Arguments} {b : List Stmt} {ds : List Expr} {ret : Option Expr} {tps : List TypeParam} {sc : Scope} {tsc : Option Scope} {bd : Str} {pos : Pos}, stmtAt 5 = some (.FunctionDef nm a b ds ret tps sc tsc bd pos) → Scope) rfl
  exact fun {nm a b ds ret tps sc tsc bd pos} _ => sc
noncomputable def o48 (P : Params) : Obj := ⟨(.type "function"), Option.none, .func ⟨(.ofString "quotedata"), (.ofString "quotedata"), a48, .stmts b48, s48, 3, [], PySem.Value.none, PySem.Value.none, PySem.Value.none, (.str (.ofString "cpy313.smtplib") 282), Option.none, (.ref 47), PySem.Value.none, 0⟩, #[]⟩
noncomputable def o49 (P : Params) : Obj := ⟨(.type "tuple"), Option.none, (.seq #[] 0), #[]⟩
noncomputable def o51 (P : Params) : Obj := ⟨(.type "tuple"), Option.none, (.seq #[(.str (.ofString "a") 358), (.str (.ofString "b") 359), (.str (.ofString "n") 360), (.str (.ofString "pad") 361), (.str (.ofString "half_n") 362), (.str (.ofString "mask") 363), (.str (.ofString "b1") 364), (.str (.ofString "b2") 365), (.str (.ofString "q1") 366), (.str (.ofString "r") 367), (.str (.ofString "q2") 368)] 0), #[]⟩
noncomputable def o52 (P : Params) : Obj := ⟨(.type "tuple"), Option.none, (.seq #[] 0), #[]⟩
noncomputable def o54 (P : Params) : Obj := ⟨(.type "code"), Option.none, (.fields #[(.str (.ofString "_div2n1n") 355), (.str (.ofString "_div2n1n") 356), (.str (.ofString "/claim/cut.py") 357), (.int 10 0), (.int 3 0), (.int 0 0), (.int 0 0), (.int 3 0), (.ref 49), (.bool Bool.true), (.int 276 0), (.ref 50), PySem.Value.none, (.ref 51), (.ref 52), (.ref 53), (.int 369 0), (.int 10 0), (.str (.ofString "/claim/cut.py") 370)]), #[]⟩
noncomputable abbrev a55 : Arguments := by
  refine (?f : ∀ {nm : Str} {a : Arguments} {b : List Stmt} {ds : List Expr} {ret : Option Expr} {tps : List TypeParam} {sc : Scope} {tsc : Option Scope} {bd : Str} {pos : Pos}, stmtAt 8 = some (.FunctionDef nm a b ds ret tps sc tsc bd pos) → Arguments) rfl
  exact fun {nm a b ds ret tps sc tsc bd pos} _ => a
noncomputable abbrev b55 : List Stmt := by
  refine (?f : ∀ {nm : Str} {a : Arguments} {b : List Stmt} {ds : List Expr} {ret : Option Expr} {tps : List TypeParam} {sc : Scope} {tsc : Option Scope} {bd : Str} {pos : Pos}, stmtAt 8 = some (.FunctionDef nm a b ds ret tps sc tsc bd pos) → List Stmt) rfl
  exact fun {nm a b ds ret tps sc tsc bd pos} _ => b
noncomputable abbrev s55 : Scope := by
  refine (?f : ∀ {nm : Str} {a : Arguments} {b : List Stmt} {ds : List Expr} {ret : Option Expr} {tps : List TypeParam} {sc : Scope} {tsc : Option Scope} {bd : Str} {pos : Pos}, stmtAt 8 = some (.FunctionDef nm a b ds ret tps sc tsc bd pos) → Scope) rfl
  exact fun {nm a b ds ret tps sc tsc bd pos} _ => sc
noncomputable def o55 (P : Params) : Obj := ⟨(.type "function"), Option.none, .func ⟨(.ofString "_div2n1n"), (.ofString "_div2n1n"), a55, .stmts b55, s55, 3, [], PySem.Value.none, PySem.Value.none, PySem.Value.none, (.str (.ofString "cpy313._pylong") 351), Option.none, (.ref 54), PySem.Value.none, 0⟩, #[]⟩
noncomputable def o56 (P : Params) : Obj := ⟨(.type "tuple"), Option.none, (.seq #[] 0), #[]⟩
noncomputable def o58 (P : Params) : Obj := ⟨(.type "tuple"), Option.none, (.seq #[(.str (.ofString "a12") 375), (.str (.ofString "a3") 376), (.str (.ofString "b") 377), (.str (.ofString "b1") 378), (.str (.ofString "b2") 379), (.str (.ofString "n") 380), (.str (.ofString "q") 381), (.str (.ofString "r") 382)] 0), #[]⟩
noncomputable def o59 (P : Params) : Obj := ⟨(.type "tuple"), Option.none, (.seq #[] 0), #[]⟩
noncomputable def o61 (P : Params) : Obj := ⟨(.type "code"), Option.none, (.fields #[(.str (.ofString "_div3n2n") 372), (.str (.ofString "_div3n2n") 373), (.str (.ofString "/claim/cut.py") 374), (.int 26 0), (.int 6 0), (.int 0 0), (.int 0 0), (.int 3 0), (.ref 56), (.bool Bool.true), (.int 276 0), (.ref 57), PySem.Value.none, (.ref 58), (.ref 59), (.ref 60), (.int 383 0), (.int 26 0), (.str (.ofString "/claim/cut.py") 384)]), #[]⟩
noncomputable abbrev a62 : Arguments := by
  refine (?f : ∀ {nm : Str} {a : Arguments} {b : List Stmt} {ds : List Expr} {ret : Option Expr} {tps : List TypeParam} {sc : Scope} {tsc : Option Scope} {bd : Str} {pos : Pos}, stmtAt 9 = some (.FunctionDef nm a b ds ret tps sc tsc bd pos) → Arguments) rfl
  exact fun {nm a b ds ret tps sc tsc bd pos} _ => a
noncomputable abbrev b62 : List Stmt := by
  refine (?f : ∀ {nm : Str} {a : Arguments} {b : List Stmt} {ds : List Expr} {ret : Option Expr} {tps : List TypeParam} {sc : Scope} {tsc : Option Scope} {bd : Str} {pos : Pos}, stmtAt 9 = some (.FunctionDef nm a b ds ret tps sc tsc bd pos) → List Stmt) rfl
  exact fun {nm a b ds ret tps sc tsc bd pos} _ => b
noncomputable abbrev s62 : Scope := by
  refine (?f : ∀ {nm : Str} {a : Arguments} {b : List Stmt} {ds : List Expr} {ret : Option Expr} {tps : List TypeParam} {sc : Scope} {tsc : Option Scope} {bd : Str} {pos : Pos}, stmtAt 9 = some (.FunctionDef nm a b ds ret tps sc tsc bd pos) → Scope) rfl
  exact fun {nm a b ds ret tps sc tsc bd pos} _ => sc
noncomputable def o62 (P : Params) : Obj := ⟨(.type "function"), Option.none, .func ⟨(.ofString "_div3n2n"), (.ofString "_div3n2n"), a62, .stmts b62, s62, 3, [], PySem.Value.none, PySem.Value.none, PySem.Value.none, (.str (.ofString "cpy313._pylong") 351), Option.none, (.ref 61), PySem.Value.none, 0⟩, #[]⟩
noncomputable def o63 (P : Params) : Obj := ⟨(.type "tuple"), Option.none, (.seq #[] 0), #[]⟩
noncomputable def o65 (P : Params) : Obj := ⟨(.type "tuple"), Option.none, (.seq #[(.str (.ofString "a") 389), (.str (.ofString "n") 390)] 0), #[]⟩
noncomputable def o66 (P : Params) : Obj := ⟨(.type "tuple"), Option.none, (.seq #[(.str (.ofString "n") 391), (.str (.ofString "a_digits") 392), (.str (.ofString "inner") 393)] 0), #[]⟩
noncomputable def o68 (P : Params) : Obj := ⟨(.type "code"), Option.none, (.fields #[(.str (.ofString "_int2digits") 386), (.str (.ofString "_int2digits") 387), (.str (.ofString "/claim/cut.py") 388), (.int 36 0), (.int 2 0), (.int 0 0), (.int 0 0), (.int 3 0), (.ref 63), (.bool Bool.true), (.int 276 0), (.ref 64), PySem.Value.none, (.ref 65), (.ref 66), (.ref 67), (.int 394 0), (.int 36 0), (.str (.ofString "/claim/cut.py") 395)]), #[]⟩
noncomputable abbrev a69 : Arguments := by
  refine (?f : ∀ {nm : Str} {a : Arguments} {b : List Stmt} {ds : List Expr} {ret : Option Expr} {tps : List TypeParam} {sc : Scope} {tsc : Option Scope} {bd : Str} {pos : Pos}, stmtAt 10 = some (.FunctionDef nm a b ds ret tps sc tsc bd pos) → Arguments) rfl
  exact fun {nm a b ds ret tps sc tsc bd pos} _ => a
noncomputable abbrev b69 : List Stmt := by
  refine (?f : ∀ {nm : Str} {a : Arguments} {b : List Stmt} {ds : List Expr} {ret : Option Expr} {tps : List TypeParam} {sc : Scope} {tsc : Option Scope} {bd : Str} {pos : Pos}, stmtAt 10 = some (.FunctionDef nm a b ds ret tps sc tsc bd pos) → List Stmt) rfl
  exact fun {nm a b ds ret tps sc tsc bd pos} _ => b
noncomputable abbrev s69 : Scope := by
  refine (?f : ∀ {nm : Str} {a : Arguments} {b : List Stmt} {ds : List Expr} {ret : Option Expr} {tps : List TypeParam} {sc : Scope} {tsc : Option Scope} {bd : Str} {pos : Pos}, stmtAt 10 = some (.FunctionDef nm a b ds ret tps sc tsc bd pos) → Scope) rfl
  exact fun {nm a b ds ret tps sc tsc bd pos} _ => sc
noncomputable def o69 (P : Params) : Obj := ⟨(.type "function"), Option.none, .func ⟨(.ofString "_int2digits"), (.ofString "_int2digits"), a69, .stmts b69, s69, 3, [], PySem.Value.none, PySem.Value.none, PySem.Value.none, (.str (.ofString "cpy313._pylong") 351), Option.none, (.ref 68), PySem.Value.none, 0⟩, #[]⟩
noncomputable def o70 (P : Params) : Obj := ⟨(.type "tuple"), Option.none, (.seq #[] 0), #[]⟩
noncomputable def o72 (P : Params) : Obj := ⟨(.type "tuple"), Option.none, (.seq #[(.str (.ofString "digits") 400), (.str (.ofString "n") 401)] 0), #[]⟩
noncomputable def o73 (P : Params) : Obj := ⟨(.type "tuple"), Option.none, (.seq #[(.str (.ofString "digits") 402), (.str (.ofString "n") 403), (.str (.ofString "inner") 404)] 0), #[]⟩
noncomputable def o75 (P : Params) : Obj := ⟨(.type "code"), Option.none, (.fields #[(.str (.ofString "_digits2int") 397), (.str (.ofString "_digits2int") 398), (.str (.ofString "/claim/cut.py") 399), (.int 52 0), (.int 2 0), (.int 0 0), (.int 0 0), (.int 3 0), (.ref 70), (.bool Bool.true), (.int 276 0), (.ref 71), PySem.Value.none, (.ref 72), (.ref 73), (.ref 74), (.int 405 0), (.int 52 0), (.str (.ofString "/claim/cut.py") 406)]), #[]⟩
noncomputable abbrev a76 : Arguments := by
  refine (?f : ∀ {nm : Str} {a : Arguments} {b : List Stmt} {ds : List Expr} {ret : Option Expr} {tps : List TypeParam} {sc : Scope} {tsc : Option Scope} {bd : Str} {pos : Pos}, stmtAt 11 = some (.FunctionDef nm a b ds ret tps sc tsc bd pos) → Arguments) rfl
  exact fun {nm a b ds ret tps sc tsc bd pos} _ => a
noncomputable abbrev b76 : List Stmt := by
  refine (?f : ∀ {nm : Str} {a : Arguments} {b : List Stmt} {ds : List Expr} {ret : Option Expr} {tps : List TypeParam} {sc : Scope} {tsc : Option Scope} {bd : Str} {pos : Pos}, stmtAt 11 = some (.FunctionDef nm a b ds ret tps sc tsc bd pos) → List Stmt) rfl
  exact fun {nm a b ds ret tps sc tsc bd pos} _ => b
noncomputable abbrev s76 : Scope := by
  refine (?f : ∀ {nm : Str} {a : Arguments} {b : List Stmt} {ds : List Expr} {ret : Option Expr} {tps : List TypeParam} {sc : Scope} {tsc : Option Scope} {bd : Str} {pos : Pos}, stmtAt 11 = some (.FunctionDef nm a b ds ret tps sc tsc bd pos) → Scope) rfl
  exact fun {nm a b ds ret tps sc tsc bd pos} _ => sc
noncomputable def o76 (P : Params) : Obj := ⟨(.type "function"), Option.none, .func ⟨(.ofString "_digits2int"), (.ofString "_digits2int"), a76, .stmts b76, s76, 3, [], PySem.Value.none, PySem.Value.none, PySem.Value.none, (.str (.ofString "cpy313._pylong") 351), Option.none, (.ref 75), PySem.Value.none, 0⟩, #[]⟩
noncomputable def o77 (P : Params) : Obj := ⟨(.type "tuple"), Option.none, (.seq #[] 0), #[]⟩
noncomputable def o79 (P : Params) : Obj := ⟨(.type "tuple"), Option.none, (.seq #[(.str (.ofString "a") 411), (.str (.ofString "b") 412), (.str (.ofString "n") 413), (.str (.ofString "a_digits") 414), (.str (.ofString "r") 415), (.str (.ofString "q_digits") 416), (.str (.ofString "a_digit") 417), (.str (.ofString "q_digit") 418), (.str (.ofString "q") 419)] 0), #[]⟩
noncomputable def o80 (P : Params) : Obj := ⟨(.type "tuple"), Option.none, (.seq #[] 0), #[]⟩
noncomputable def o82 (P : Params) : Obj := ⟨(.type "code"), Option.none, (.fields #[(.str (.ofString "_divmod_pos") 408), (.str (.ofString "_divmod_pos") 409), (.str (.ofString "/claim/cut.py") 410), (.int 61 0), (.int 2 0), (.int 0 0), (.int 0 0), (.int 3 0), (.ref 77), (.bool Bool.true), (.int 276 0), (.ref 78), PySem.Value.none, (.ref 79), (.ref 80), (.ref 81), (.int 420 0), (.int 61 0), (.str (.ofString "/claim/cut.py") 421)]), #[]⟩
noncomputable abbrev a83 : Arguments := by
  refine (?f : ∀ {nm : Str} {a : Arguments} {b : List Stmt} {ds : List Expr} {ret : Option Expr} {tps : List TypeParam} {sc : Scope} {tsc : Option Scope} {bd : Str} {pos : Pos}, stmtAt 12 = some (.FunctionDef nm a b ds ret tps sc tsc bd pos) → Arguments) rfl
  exact fun {nm a b ds ret tps sc tsc bd pos} _ => a
noncomputable abbrev b83 : List Stmt := by
  refine (?f : ∀ {nm : Str} {a : Arguments} {b : List Stmt} {ds : List Expr} {ret : Option Expr} {tps : List TypeParam} {sc : Scope} {tsc : Option Scope} {bd : Str} {pos : Pos}, stmtAt 12 = some (.FunctionDef nm a b ds ret tps sc tsc bd pos) → List Stmt) rfl
  exact fun {nm a b ds ret tps sc tsc bd pos} _ => b
noncomputable abbrev s83 : Scope := by
  refine (?f : ∀ {nm : Str} {a : Arguments} {b : List Stmt} {ds : List Expr} {ret : Option Expr} {tps : List TypeParam} {sc : Scope} {tsc : Option Scope} {bd : Str} {pos : Pos}, stmtAt 12 = some (.FunctionDef nm a b ds ret tps sc tsc bd pos) → Scope) rfl
  exact fun {nm a b ds ret tps sc tsc bd pos} _ => sc
noncomputable def o83 (P : Params) : Obj := ⟨(.type "function"), Option.none, .func ⟨(.ofString "_divmod_pos"), (.ofString "_divmod_pos"), a83, .stmts b83, s83, 3, [], PySem.Value.none, PySem.Value.none, PySem.Value.none, (.str (.ofString "cpy313._pylong") 351), Option.none, (.ref 82), PySem.Value.none, 0⟩, #[]⟩
noncomputable def o84 (P : Params) : Obj := ⟨(.type "tuple"), Option.none, (.seq #[] 0), #[]⟩
noncomputable def o86 (P : Params) : Obj := ⟨(.type "tuple"), Option.none, (.seq #[(.str (.ofString "a") 426), (.str (.ofString "b") 427), (.str (.ofString "q") 428), (.str (.ofString "r") 429)] 0), #[]⟩
noncomputable def o87 (P : Params) : Obj := ⟨(.type "tuple"), Option.none, (.seq #[] 0), #[]⟩
noncomputable def o89 (P : Params) : Obj := ⟨(.type "code"), Option.none, (.fields #[(.str (.ofString "int_divmod") 423), (.str (.ofString "int_divmod") 424), (.str (.ofString "/claim/cut.py") 425), (.int 72 0), (.int 2 0), (.int 0 0), (.int 0 0), (.int 3 0), (.ref 84), (.bool Bool.true), (.int 276 0), (.ref 85), PySem.Value.none, (.ref 86), (.ref 87), (.ref 88), (.int 430 0), (.int 72 0), (.str (.ofString "/claim/cut.py") 431)]), #[]⟩
noncomputable abbrev a90 : Arguments := by
  refine (?f : ∀ {nm : Str} {a : Arguments} {b : List Stmt} {ds : List Expr} {ret : Option Expr} {tps : List TypeParam} {sc : Scope} {tsc : Option Scope} {bd : Str} {pos : Pos}, stmtAt 13 = some (.FunctionDef nm a b ds ret tps sc tsc bd pos) → Arguments) rfl
  exact fun {nm a b ds ret tps sc tsc bd pos} _ => a
noncomputable abbrev b90 : List Stmt := by
  refine (?f : ∀ {nm : Str} {a : Arguments} {b : List Stmt} {ds : List Expr} {ret : Option Expr} {tps : List TypeParam} {sc : Scope} {tsc : Option Scope} {bd : Str} {pos : Pos}, stmtAt 13 = some (.FunctionDef nm a b ds ret tps sc tsc bd pos) → List Stmt) rfl
  exact fun {nm a b ds ret tps sc tsc bd pos} _ => b
noncomputable abbrev s90 : Scope := by
  refine (?f : ∀ {nm : Str} {a : Arguments} {b : List Stmt} {ds : List Expr} {ret : Option Expr} {tps : List TypeParam} {sc : Scope} {tsc : Option Scope} {bd : Str} {pos : Pos}, stmtAt 13 = some (.FunctionDef nm a b ds ret tps sc tsc bd pos) → Scope) rfl
  exact fun {nm a b ds ret tps sc tsc bd pos} _ => sc
noncomputable def o90 (P : Params) : Obj := ⟨(.type "function"), Option.none, .func ⟨(.ofString "int_divmod"), (.ofString "int_divmod"), a90, .stmts b90, s90, 3, [], PySem.Value.none, PySem.Value.none, PySem.Value.none, (.str (.ofString "cpy313._pylong") 351), Option.none, (.ref 89), PySem.Value.none, 0⟩, #[]⟩
noncomputable def o91 (P : Params) : Obj := ⟨(.type "tuple"), Option.none, (.seq #[] 0), #[]⟩
noncomputable def o93 (P : Params) : Obj := ⟨(.type "tuple"), Option.none, (.seq #[(.str (.ofString "iterator") 438), (.str (.ofString "b") 439), (.str (.ofString "val") 440)] 0), #[]⟩
noncomputable def o94 (P : Params) : Obj := ⟨(.type "tuple"), Option.none, (.seq #[] 0), #[]⟩
noncomputable def o96 (P : Params) : Obj := ⟨(.type "code"), Option.none, (.fields #[(.str (.ofString "_parse_varint") 435), (.str (.ofString "_parse_varint") 436), (.str (.ofString "/claim/cut.py") 437), (.int 84 0), (.int 1 0), (.int 0 0), (.int 0 0), (.int 3 0), (.ref 91), (.bool Bool.true), (.int 276 0), (.ref 92), PySem.Value.none, (.ref 93), (.ref 94), (.ref 95), (.int 441 0), (.int 84 0), (.str (.ofString "/claim/cut.py") 442)]), #[]⟩
noncomputable abbrev a97 : Arguments := by
  refine (?f : ∀ {nm : Str} {a : Arguments} {b : List Stmt} {ds : List Expr} {ret : Option Expr} {tps : List TypeParam} {sc : Scope} {tsc : Option Scope} {bd : Str} {pos : Pos}, stmtAt 15 = some (.FunctionDef nm a b ds ret tps sc tsc bd pos) → Arguments) rfl
  exact fun {nm a b ds ret tps sc tsc bd pos} _ => a
noncomputable abbrev b97 : List Stmt := by
  refine (?f : ∀ {nm : Str} {a : Arguments} {b : List Stmt} {ds : List Expr} {ret : Option Expr} {tps : List TypeParam} {sc : Scope} {tsc : Option Scope} {bd : Str} {pos : Pos}, stmtAt 15 = some (.FunctionDef nm a b ds ret tps sc tsc bd pos) → List Stmt) rfl
  exact fun {nm a b ds ret tps sc tsc bd pos} _ => b
noncomputable abbrev s97 : Scope := by
  refine (?f : ∀ {nm : Str} {a : Arguments} {b : List Stmt} {ds : List Expr} {ret : Option Expr} {tps : List TypeParam} {sc : Scope} {tsc : Option Scope} {bd : Str} {pos : Pos}, stmtAt 15 = some (.FunctionDef nm a b ds ret tps sc tsc bd pos) → Scope) rfl
  exact fun {nm a b ds ret tps sc tsc bd pos} _ => sc
noncomputable def o97 (P : Params) : Obj := ⟨(.type "function"), Option.none, .func ⟨(.ofString "_parse_varint"), (.ofString "_parse_varint"), a97, .stmts b97, s97, 3, [], PySem.Value.none, PySem.Value.none, PySem.Value.none, (.str (.ofString "cpy313.dis") 433), Option.none, (.ref 96), PySem.Value.none, 0⟩, #[]⟩
noncomputable def o105 (P : Params) : Obj := ⟨(.type "set"), Option.none, (.set #[(65024, (.int 65024 462)), (65025, (.int 65025 463)), (65026, (.int 65026 464)), (65027, (.int 65027 465)), (65028, (.int 65028 466)), (65029, (.int 65029 467)), (6150, (.int 6150 448)), (65030, (.int 65030 468)), (65031, (.int 65031 469)), (65032, (.int 65032 470)), (65033, (.int 65033 471)), (6155, (.int 6155 449)), (6156, (.int 6156 450)), (6157, (.int 6157 451)), (8203, (.int 8203 452)), (8204, (.int 8204 453)), (8205, (.int 8205 454)), (65034, (.int 65034 472)), (65035, (.int 65035 473)), (65036, (.int 65036 474)), (65037, (.int 65037 475)), (65038, (.int 65038 476)), (65039, (.int 65039 477)), (173, (.int 173 446)), (847, (.int 847 447)), (8288, (.int 8288 455)), (65279, (.int 65279 456))] 29 ⟨127, #[0, 1, 2, 3, 4, 5, 6, 7, 8, 9, 10, 11, 12, 13, 14, 15, 16, 17, 18, 19, 20, 21, 22, 45, 79, 96, 127], #[], 0, (!P.followText "set-order"), 2, Bool.true⟩), #[]⟩
noncomputable def o109 (P : Params) : Obj := ⟨(.type "tuple"), Option.none, (.seq #[] 0), #[]⟩
noncomputable def o111 (P : Params) : Obj := ⟨(.type "tuple"), Option.none, (.seq #[(.str (.ofString "code") 509)] 0), #[]⟩
noncomputable def o112 (P : Params) : Obj := ⟨(.type "tuple"), Option.none, (.seq #[] 0), #[]⟩
noncomputable def o114 (P : Params) : Obj := ⟨(.type "code"), Option.none, (.fields #[(.str (.ofString "in_table_b1") 506), (.str (.ofString "in_table_b1") 507), (.str (.ofString "/claim/cut.py") 508), (.int 94 0), (.int 1 0), (.int 0 0), (.int 0 0), (.int 3 0), (.ref 109), (.bool Bool.true), (.int 276 0), (.ref 110), PySem.Value.none, (.ref 111), (.ref 112), (.ref 113), (.int 510 0), (.int 94 0), (.str (.ofString "/claim/cut.py") 511)]), #[]⟩
noncomputable abbrev a115 : Arguments := by
  refine (?f : ∀ {nm : Str} {a : Arguments} {b : List Stmt} {ds : List Expr} {ret : Option Expr} {tps : List TypeParam} {sc : Scope} {tsc : Option Scope} {bd : Str} {pos : Pos}, stmtAt 18 = some (.FunctionDef nm a b ds ret tps sc tsc bd pos) → Arguments) rfl
  exact fun {nm a b ds ret tps sc tsc bd pos} _ => a
noncomputable abbrev b115 : List Stmt := by
  refine (?f : ∀ {nm : Str} {a : Arguments} {b : List Stmt} {ds : List Expr} {ret : Option Expr} {tps : List TypeParam} {sc : Scope} {tsc : Option Scope} {bd : Str} {pos : Pos}, stmtAt 18 = some (.FunctionDef nm a b ds ret tps sc tsc bd pos) → List Stmt) rfl
  exact fun {nm a b ds ret tps sc tsc bd pos} _ => b
noncomputable abbrev s115 : Scope := by
  refine (?f : ∀ {nm : Str} {a : Arguments} {b : List Stmt} {ds : List Expr} {ret : Option Expr} {tps : List TypeParam} {sc : Scope} {tsc : Option Scope} {bd : Str} {pos : Pos}, stmtAt 18 = some (.FunctionDef nm a b ds ret tps sc tsc bd pos) → Scope) rfl
  exact fun {nm a b ds ret tps sc tsc bd pos} _ => sc
noncomputable def o115 (P : Params) : Obj := ⟨(.type "function"), Option.none, .func ⟨(.ofString "in_table_b1"), (.ofString "in_table_b1"), a115, .stmts b115, s115, 3, [], PySem.Value.none, PySem.Value.none, PySem.Value.none, (.str (.ofString "cpy313.stringprep") 444), Option.none, (.ref 114), PySem.Value.none, 0⟩, #[]⟩
noncomputable def o116 (P : Params) : Obj := ⟨(.type "tuple"), Option.none, (.seq #[] 0), #[]⟩
noncomputable def o119 (P : Params) : Obj := ⟨(.type "code"), Option.none, (.fields #[(.str (.ofString "_law_heaps") 515), (.str (.ofString "_law_heaps") 516), (.str (.ofString "/claim/cut.py") 517), (.int 97 0), (.int 1 0), (.int 0 0), (.int 0 0), (.int 3 0), (.ref 116), (.bool Bool.true), (.int 276 0), (.ref 117), PySem.Value.none, PySem.Value.none, PySem.Value.none, (.ref 118), (.int 518 0), (.int 97 0), (.str (.ofString "/claim/cut.py") 519)]), #[]⟩
noncomputable abbrev a120 : Arguments := by
  refine (?f : ∀ {nm : Str} {a : Arguments} {b : List Stmt} {ds : List Expr} {ret : Option Expr} {tps : List TypeParam} {sc : Scope} {tsc : Option Scope} {bd : Str} {pos : Pos}, stmtAt 20 = some (.FunctionDef nm a b ds ret tps sc tsc bd pos) → Arguments) rfl
  exact fun {nm a b ds ret tps sc tsc bd pos} _ => a
noncomputable abbrev b120 : List Stmt := by
  refine (?f : ∀ {nm : Str} {a : Arguments} {b : List Stmt} {ds : List Expr} {ret : Option Expr} {tps : List TypeParam} {sc : Scope} {tsc : Option Scope} {bd : Str} {pos : Pos}, stmtAt 20 = some (.FunctionDef nm a b ds ret tps sc tsc bd pos) → List Stmt) rfl
  exact fun {nm a b ds ret tps sc tsc bd pos} _ => b
noncomputable abbrev s120 : Scope := by
  refine (?f : ∀ {nm : Str} {a : Arguments} {b : List Stmt} {ds : List Expr} {ret : Option Expr} {tps : List TypeParam} {sc : Scope} {tsc : Option Scope} {bd : Str} {pos : Pos}, stmtAt 20 = some (.FunctionDef nm a b ds ret tps sc tsc bd pos) → Scope) rfl
  exact fun {nm a b ds ret tps sc tsc bd pos} _ => sc
noncomputable def o120 (P : Params) : Obj := ⟨(.type "function"), Option.none, .func ⟨(.ofString "_law_heaps"), (.ofString "_law_heaps"), a120, .stmts b120, s120, 3, [], PySem.Value.none, PySem.Value.none, PySem.Value.none, (.str (.ofString "law_uc0003_01") 513), Option.none, (.ref 119), PySem.Value.none, 0⟩, #[]⟩
noncomputable def o121 (P : Params) : Obj := ⟨(.type "tuple"), Option.none, (.seq #[] 0), #[]⟩
noncomputable def o123 (P : Params) : Obj := ⟨(.type "tuple"), Option.none, (.seq #[(.str (.ofString "draw") 524), (.str (.ofString "codes") 525)] 0), #[]⟩
noncomputable def o124 (P : Params) : Obj := ⟨(.type "tuple"), Option.none, (.seq #[] 0), #[]⟩
noncomputable def o126 (P : Params) : Obj := ⟨(.type "code"), Option.none, (.fields #[(.str (.ofString "_law_hidden") 521), (.str (.ofString "_law_hidden") 522), (.str (.ofString "/claim/cut.py") 523), (.int 100 0), (.int 1 0), (.int 0 0), (.int 0 0), (.int 3 0), (.ref 121), (.bool Bool.true), (.int 276 0), (.ref 122), PySem.Value.none, (.ref 123), (.ref 124), (.ref 125), (.int 526 0), (.int 100 0), (.str (.ofString "/claim/cut.py") 527)]), #[]⟩
noncomputable abbrev a127 : Arguments := by
  refine (?f : ∀ {nm : Str} {a : Arguments} {b : List Stmt} {ds : List Expr} {ret : Option Expr} {tps : List TypeParam} {sc : Scope} {tsc : Option Scope} {bd : Str} {pos : Pos}, stmtAt 21 = some (.FunctionDef nm a b ds ret tps sc tsc bd pos) → Arguments) rfl
  exact fun {nm a b ds ret tps sc tsc bd pos} _ => a
noncomputable abbrev b127 : List Stmt := by
  refine (?f : ∀ {nm : Str} {a : Arguments} {b : List Stmt} {ds : List Expr} {ret : Option Expr} {tps : List TypeParam} {sc : Scope} {tsc : Option Scope} {bd : Str} {pos : Pos}, stmtAt 21 = some (.FunctionDef nm a b ds ret tps sc tsc bd pos) → List Stmt) rfl
  exact fun {nm a b ds ret tps sc tsc bd pos} _ => b
noncomputable abbrev s127 : Scope := by
  refine (?f : ∀ {nm : Str} {a : Arguments} {b : List Stmt} {ds : List Expr} {ret : Option Expr} {tps : List TypeParam} {sc : Scope} {tsc : Option Scope} {bd : Str} {pos : Pos}, stmtAt 21 = some (.FunctionDef nm a b ds ret tps sc tsc bd pos) → Scope) rfl
  exact fun {nm a b ds ret tps sc tsc bd pos} _ => sc
noncomputable def o127 (P : Params) : Obj := ⟨(.type "function"), Option.none, .func ⟨(.ofString "_law_hidden"), (.ofString "_law_hidden"), a127, .stmts b127, s127, 3, [], PySem.Value.none, PySem.Value.none, PySem.Value.none, (.str (.ofString "law_uc0003_01") 513), Option.none, (.ref 126), PySem.Value.none, 0⟩, #[]⟩
noncomputable def o128 (P : Params) : Obj := ⟨(.type "tuple"), Option.none, (.seq #[] 0), #[]⟩
noncomputable def o130 (P : Params) : Obj := ⟨(.type "tuple"), Option.none, (.seq #[(.str (.ofString "draw") 532), (.str (.ofString "codes") 533)] 0), #[]⟩
noncomputable def o131 (P : Params) : Obj := ⟨(.type "tuple"), Option.none, (.seq #[] 0), #[]⟩
noncomputable def o133 (P : Params) : Obj := ⟨(.type "code"), Option.none, (.fields #[(.str (.ofString "_law_beside") 529), (.str (.ofString "_law_beside") 530), (.str (.ofString "/claim/cut.py") 531), (.int 103 0), (.int 1 0), (.int 0 0), (.int 0 0), (.int 3 0), (.ref 128), (.bool Bool.true), (.int 276 0), (.ref 129), PySem.Value.none, (.ref 130), (.ref 131), (.ref 132), (.int 534 0), (.int 103 0), (.str (.ofString "/claim/cut.py") 535)]), #[]⟩
noncomputable abbrev a134 : Arguments := by
  refine (?f : ∀ {nm : Str} {a : Arguments} {b : List Stmt} {ds : List Expr} {ret : Option Expr} {tps : List TypeParam} {sc : Scope} {tsc : Option Scope} {bd : Str} {pos : Pos}, stmtAt 22 = some (.FunctionDef nm a b ds ret tps sc tsc bd pos) → Arguments) rfl
  exact fun {nm a b ds ret tps sc tsc bd pos} _ => a
noncomputable abbrev b134 : List Stmt := by
  refine (?f : ∀ {nm : Str} {a : Arguments} {b : List Stmt} {ds : List Expr} {ret : Option Expr} {tps : List TypeParam} {sc : Scope} {tsc : Option Scope} {bd : Str} {pos : Pos}, stmtAt 22 = some (.FunctionDef nm a b ds ret tps sc tsc bd pos) → List Stmt) rfl
  exact fun {nm a b ds ret tps sc tsc bd pos} _ => b
noncomputable abbrev s134 : Scope := by
  refine (?f : ∀ {nm : Str} {a : Arguments} {b : List Stmt} {ds : List Expr} {ret : Option Expr} {tps : List TypeParam} {sc : Scope} {tsc : Option Scope} {bd : Str} {pos : Pos}, stmtAt 22 = some (.FunctionDef nm a b ds ret tps sc tsc bd pos) → Scope) rfl
  exact fun {nm a b ds ret tps sc tsc bd pos} _ => sc
noncomputable def o134 (P : Params) : Obj := ⟨(.type "function"), Option.none, .func ⟨(.ofString "_law_beside"), (.ofString "_law_beside"), a134, .stmts b134, s134, 3, [], PySem.Value.none, PySem.Value.none, PySem.Value.none, (.str (.ofString "law_uc0003_01") 513), Option.none, (.ref 133), PySem.Value.none, 0⟩, #[]⟩
noncomputable def o135 (P : Params) : Obj := ⟨(.type "tuple"), Option.none, (.seq #[] 0), #[]⟩
noncomputable def o137 (P : Params) : Obj := ⟨(.type "tuple"), Option.none, (.seq #[(.str (.ofString "text") 540), (.str (.ofString "kept") 541), (.str (.ofString "sign") 542), (.str (.ofString "held") 543)] 0), #[]⟩
noncomputable def o138 (P : Params) : Obj := ⟨(.type "tuple"), Option.none, (.seq #[] 0), #[]⟩
noncomputable def o140 (P : Params) : Obj := ⟨(.type "code"), Option.none, (.fields #[(.str (.ofString "_law_kept") 537), (.str (.ofString "_law_kept") 538), (.str (.ofString "/claim/cut.py") 539), (.int 106 0), (.int 1 0), (.int 0 0), (.int 0 0), (.int 3 0), (.ref 135), (.bool Bool.true), (.int 276 0), (.ref 136), PySem.Value.none, (.ref 137), (.ref 138), (.ref 139), (.int 544 0), (.int 106 0), (.str (.ofString "/claim/cut.py") 545)]), #[]⟩
noncomputable abbrev a141 : Arguments := by
  refine (?f : ∀ {nm : Str} {a : Arguments} {b : List Stmt} {ds : List Expr} {ret : Option Expr} {tps : List TypeParam} {sc : Scope} {tsc : Option Scope} {bd : Str} {pos : Pos}, stmtAt 23 = some (.FunctionDef nm a b ds ret tps sc tsc bd pos) → Arguments) rfl
  exact fun {nm a b ds ret tps sc tsc bd pos} _ => a
noncomputable abbrev b141 : List Stmt := by
  refine (?f : ∀ {nm : Str} {a : Arguments} {b : List Stmt} {ds : List Expr} {ret : Option Expr} {tps : List TypeParam} {sc : Scope} {tsc : Option Scope} {bd : Str} {pos : Pos}, stmtAt 23 = some (.FunctionDef nm a b ds ret tps sc tsc bd pos) → List Stmt) rfl
  exact fun {nm a b ds ret tps sc tsc bd pos} _ => b
noncomputable abbrev s141 : Scope := by
  refine (?f : ∀ {nm : Str} {a : Arguments} {b : List Stmt} {ds : List Expr} {ret : Option Expr} {tps : List TypeParam} {sc : Scope} {tsc : Option Scope} {bd : Str} {pos : Pos}, stmtAt 23 = some (.FunctionDef nm a b ds ret tps sc tsc bd pos) → Scope) rfl
  exact fun {nm a b ds ret tps sc tsc bd pos} _ => sc
noncomputable def o141 (P : Params) : Obj := ⟨(.type "function"), Option.none, .func ⟨(.ofString "_law_kept"), (.ofString "_law_kept"), a141, .stmts b141, s141, 3, [], PySem.Value.none, PySem.Value.none, PySem.Value.none, (.str (.ofString "law_uc0003_01") 513), Option.none, (.ref 140), PySem.Value.none, 0⟩, #[]⟩
noncomputable def o142 (P : Params) : Obj := ⟨(.type "tuple"), Option.none, (.seq #[] 0), #[]⟩
noncomputable def o145 (P : Params) : Obj := ⟨(.type "code"), Option.none, (.fields #[(.str (.ofString "_law_numbers") 547), (.str (.ofString "_law_numbers") 548), (.str (.ofString "/claim/cut.py") 549), (.int 115 0), (.int 1 0), (.int 0 0), (.int 0 0), (.int 3 0), (.ref 142), (.bool Bool.true), (.int 276 0), (.ref 143), PySem.Value.none, PySem.Value.none, PySem.Value.none, (.ref 144), (.int 550 0), (.int 115 0), (.str (.ofString "/claim/cut.py") 551)]), #[]⟩
noncomputable abbrev a146 : Arguments := by
  refine (?f : ∀ {nm : Str} {a : Arguments} {b : List Stmt} {ds : List Expr} {ret : Option Expr} {tps : List TypeParam} {sc : Scope} {tsc : Option Scope} {bd : Str} {pos : Pos}, stmtAt 24 = some (.FunctionDef nm a b ds ret tps sc tsc bd pos) → Arguments) rfl
  exact fun {nm a b ds ret tps sc tsc bd pos} _ => a
noncomputable abbrev b146 : List Stmt := by
  refine (?f : ∀ {nm : Str} {a : Arguments} {b : List Stmt} {ds : List Expr} {ret : Option Expr} {tps : List TypeParam} {sc : Scope} {tsc : Option Scope} {bd : Str} {pos : Pos}, stmtAt 24 = some (.FunctionDef nm a b ds ret tps sc tsc bd pos) → List Stmt) rfl
  exact fun {nm a b ds ret tps sc tsc bd pos} _ => b
noncomputable abbrev s146 : Scope := by
  refine (?f : ∀ {nm : Str} {a : Arguments} {b : List Stmt} {ds : List Expr} {ret : Option Expr} {tps : List TypeParam} {sc : Scope} {tsc : Option Scope} {bd : Str} {pos : Pos}, stmtAt 24 = some (.FunctionDef nm a b ds ret tps sc tsc bd pos) → Scope) rfl
  exact fun {nm a b ds ret tps sc tsc bd pos} _ => sc
noncomputable def o146 (P : Params) : Obj := ⟨(.type "function"), Option.none, .func ⟨(.ofString "_law_numbers"), (.ofString "_law_numbers"), a146, .stmts b146, s146, 3, [], PySem.Value.none, PySem.Value.none, PySem.Value.none, (.str (.ofString "law_uc0003_01") 513), Option.none, (.ref 145), PySem.Value.none, 0⟩, #[]⟩
noncomputable def o147 (P : Params) : Obj := ⟨(.type "tuple"), Option.none, (.seq #[] 0), #[]⟩
noncomputable def o150 (P : Params) : Obj := ⟨(.type "code"), Option.none, (.fields #[(.str (.ofString "_law_targets") 553), (.str (.ofString "_law_targets") 554), (.str (.ofString "/claim/cut.py") 555), (.int 124 0), (.int 2 0), (.int 0 0), (.int 0 0), (.int 3 0), (.ref 147), (.bool Bool.true), (.int 276 0), (.ref 148), PySem.Value.none, PySem.Value.none, PySem.Value.none, (.ref 149), (.int 556 0), (.int 124 0), (.str (.ofString "/claim/cut.py") 557)]), #[]⟩
noncomputable abbrev a151 : Arguments := by
  refine (?f : ∀ {nm : Str} {a : Arguments} {b : List Stmt} {ds : List Expr} {ret : Option Expr} {tps : List TypeParam} {sc : Scope} {tsc : Option Scope} {bd : Str} {pos : Pos}, stmtAt 25 = some (.FunctionDef nm a b ds ret tps sc tsc bd pos) → Arguments) rfl
  exact fun {nm a b ds ret tps sc tsc bd pos} _ => a
noncomputable abbrev b151 : List Stmt := by
  refine (?f : ∀ {nm : Str} {a : Arguments} {b : List Stmt} {ds : List Expr} {ret : Option Expr} {tps : List TypeParam} {sc : Scope} {tsc : Option Scope} {bd : Str} {pos : Pos}, stmtAt 25 = some (.FunctionDef nm a b ds ret tps sc tsc bd pos) → List Stmt) rfl
  exact fun {nm a b ds ret tps sc tsc bd pos} _ => b
noncomputable abbrev s151 : Scope := by
  refine (?f : ∀ {nm : Str} {a : Arguments} {b : List Stmt} {ds : List Expr} {ret : Option Expr} {tps : List TypeParam} {sc : Scope} {tsc : Option Scope} {bd : Str} {pos : Pos}, stmtAt 25 = some (.FunctionDef nm a b ds ret tps sc tsc bd pos) → Scope) rfl
  exact fun {nm a b ds ret tps sc tsc bd pos} _ => sc
noncomputable def o151 (P : Params) : Obj := ⟨(.type "function"), Option.none, .func ⟨(.ofString "_law_targets"), (.ofString "_law_targets"), a151, .stmts b151, s151, 3, [], PySem.Value.none, PySem.Value.none, PySem.Value.none, (.str (.ofString "law_uc0003_01") 513), Option.none, (.ref 150), PySem.Value.none, 0⟩, #[]⟩
noncomputable def o152 (P : Params) : Obj := ⟨(.type "tuple"), Option.none, (.seq #[] 0), #[]⟩
noncomputable def o155 (P : Params) : Obj := ⟨(.type "code"), Option.none, (.fields #[(.str (.ofString "_law_book") 559), (.str (.ofString "_law_book") 560), (.str (.ofString "/claim/cut.py") 561), (.int 126 0), (.int 4 0), (.int 0 0), (.int 0 0), (.int 3 0), (.ref 152), (.bool Bool.true), (.int 276 0), (.ref 153), PySem.Value.none, PySem.Value.none, PySem.Value.none, (.ref 154), (.int 562 0), (.int 126 0), (.str (.ofString "/claim/cut.py") 563)]), #[]⟩
noncomputable abbrev a156 : Arguments := by
  refine (?f : ∀ {nm : Str} {a : Arguments} {b : List Stmt} {ds : List Expr} {ret : Option Expr} {tps : List TypeParam} {sc : Scope} {tsc : Option Scope} {bd : Str} {pos : Pos}, stmtAt 26 = some (.FunctionDef nm a b ds ret tps sc tsc bd pos) → Arguments) rfl
  exact fun {nm a b ds ret tps sc tsc bd pos} _ => a
noncomputable abbrev b156 : List Stmt := by
  refine (?f : ∀ {nm : Str} {a : Arguments} {b : List Stmt} {ds : List Expr} {ret : Option Expr} {tps : List TypeParam} {sc : Scope} {tsc : Option Scope} {bd : Str} {pos : Pos}, stmtAt 26 = some (.FunctionDef nm a b ds ret tps sc tsc bd pos) → List Stmt) rfl
  exact fun {nm a b ds ret tps sc tsc bd pos} _ => b
noncomputable abbrev s156 : Scope := by
  refine (?f : ∀ {nm : Str} {a : Arguments} {b : List Stmt} {ds : List Expr} {ret : Option Expr} {tps : List TypeParam} {sc : Scope} {tsc : Option Scope} {bd : Str} {pos : Pos}, stmtAt 26 = some (.FunctionDef nm a b ds ret tps sc tsc bd pos) → Scope) rfl
  exact fun {nm a b ds ret tps sc tsc bd pos} _ => sc
noncomputable def o156 (P : Params) : Obj := ⟨(.type "function"), Option.none, .func ⟨(.ofString "_law_book"), (.ofString "_law_book"), a156, .stmts b156, s156, 3, [], PySem.Value.none, PySem.Value.none, PySem.Value.none, (.str (.ofString "law_uc0003_01") 513), Option.none, (.ref 155), PySem.Value.none, 0⟩, #[]⟩
noncomputable def o157 (P : Params) : Obj := ⟨(.type "tuple"), Option.none, (.seq #[] 0), #[]⟩
noncomputable def o159 (P : Params) : Obj := ⟨(.type "tuple"), Option.none, (.seq #[(.str (.ofString "level") 568), (.str (.ofString "bare") 569), (.str (.ofString "letters") 570), (.str (.ofString "turn") 571), (.str (.ofString "draw") 572), (.str (.ofString "text") 573), (.str (.ofString "place") 574), (.str (.ofString "site") 575)] 0), #[]⟩
noncomputable def o160 (P : Params) : Obj := ⟨(.type "tuple"), Option.none, (.seq #[] 0), #[]⟩
noncomputable def o162 (P : Params) : Obj := ⟨(.type "code"), Option.none, (.fields #[(.str (.ofString "_law_posted") 565), (.str (.ofString "_law_posted") 566), (.str (.ofString "/claim/cut.py") 567), (.int 130 0), (.int 5 0), (.int 0 0), (.int 0 0), (.int 3 0), (.ref 157), (.bool Bool.true), (.int 276 0), (.ref 158), PySem.Value.none, (.ref 159), (.ref 160), (.ref 161), (.int 576 0), (.int 130 0), (.str (.ofString "/claim/cut.py") 577)]), #[]⟩
noncomputable abbrev a163 : Arguments := by
  refine (?f : ∀ {nm : Str} {a : Arguments} {b : List Stmt} {ds : List Expr} {ret : Option Expr} {tps : List TypeParam} {sc : Scope} {tsc : Option Scope} {bd : Str} {pos : Pos}, stmtAt 27 = some (.FunctionDef nm a b ds ret tps sc tsc bd pos) → Arguments) rfl
  exact fun {nm a b ds ret tps sc tsc bd pos} _ => a
noncomputable abbrev b163 : List Stmt := by
  refine (?f : ∀ {nm : Str} {a : Arguments} {b : List Stmt} {ds : List Expr} {ret : Option Expr} {tps : List TypeParam} {sc : Scope} {tsc : Option Scope} {bd : Str} {pos : Pos}, stmtAt 27 = some (.FunctionDef nm a b ds ret tps sc tsc bd pos) → List Stmt) rfl
  exact fun {nm a b ds ret tps sc tsc bd pos} _ => b
noncomputable abbrev s163 : Scope := by
  refine (?f : ∀ {nm : Str} {a : Arguments} {b : List Stmt} {ds : List Expr} {ret : Option Expr} {tps : List TypeParam} {sc : Scope} {tsc : Option Scope} {bd : Str} {pos : Pos}, stmtAt 27 = some (.FunctionDef nm a b ds ret tps sc tsc bd pos) → Scope) rfl
  exact fun {nm a b ds ret tps sc tsc bd pos} _ => sc
noncomputable def o163 (P : Params) : Obj := ⟨(.type "function"), Option.none, .func ⟨(.ofString "_law_posted"), (.ofString "_law_posted"), a163, .stmts b163, s163, 3, [], PySem.Value.none, PySem.Value.none, PySem.Value.none, (.str (.ofString "law_uc0003_01") 513), Option.none, (.ref 162), PySem.Value.none, 0⟩, #[]⟩
noncomputable def o164 (P : Params) : Obj := ⟨(.type "tuple"), Option.none, (.seq #[] 0), #[]⟩
noncomputable def o166 (P : Params) : Obj := ⟨(.type "tuple"), Option.none, (.seq #[(.str (.ofString "text") 582), (.str (.ofString "marks") 583), (.str (.ofString "level") 584), (.str (.ofString "dots") 585), (.str (.ofString "number") 586)] 0), #[]⟩
noncomputable def o167 (P : Params) : Obj := ⟨(.type "tuple"), Option.none, (.seq #[] 0), #[]⟩
noncomputable def o169 (P : Params) : Obj := ⟨(.type "code"), Option.none, (.fields #[(.str (.ofString "_law_levels") 579), (.str (.ofString "_law_levels") 580), (.str (.ofString "/claim/cut.py") 581), (.int 139 0), (.int 2 0), (.int 0 0), (.int 0 0), (.int 3 0), (.ref 164), (.bool Bool.true), (.int 276 0), (.ref 165), PySem.Value.none, (.ref 166), (.ref 167), (.ref 168), (.int 587 0), (.int 139 0), (.str (.ofString "/claim/cut.py") 588)]), #[]⟩
noncomputable abbrev a170 : Arguments := by
  refine (?f : ∀ {nm : Str} {a : Arguments} {b : List Stmt} {ds : List Expr} {ret : Option Expr} {tps : List TypeParam} {sc : Scope} {tsc : Option Scope} {bd : Str} {pos : Pos}, stmtAt 28 = some (.FunctionDef nm a b ds ret tps sc tsc bd pos) → Arguments) rfl
  exact fun {nm a b ds ret tps sc tsc bd pos} _ => a
noncomputable abbrev b170 : List Stmt := by
  refine (?f : ∀ {nm : Str} {a : Arguments} {b : List Stmt} {ds : List Expr} {ret : Option Expr} {tps : List TypeParam} {sc : Scope} {tsc : Option Scope} {bd : Str} {pos : Pos}, stmtAt 28 = some (.FunctionDef nm a b ds ret tps sc tsc bd pos) → List Stmt) rfl
  exact fun {nm a b ds ret tps sc tsc bd pos} _ => b
noncomputable abbrev s170 : Scope := by
  refine (?f : ∀ {nm : Str} {a : Arguments} {b : List Stmt} {ds : List Expr} {ret : Option Expr} {tps : List TypeParam} {sc : Scope} {tsc : Option Scope} {bd : Str} {pos : Pos}, stmtAt 28 = some (.FunctionDef nm a b ds ret tps sc tsc bd pos) → Scope) rfl
  exact fun {nm a b ds ret tps sc tsc bd pos} _ => sc
noncomputable def o170 (P : Params) : Obj := ⟨(.type "function"), Option.none, .func ⟨(.ofString "_law_levels"), (.ofString "_law_levels"), a170, .stmts b170, s170, 3, [], PySem.Value.none, PySem.Value.none, PySem.Value.none, (.str (.ofString "law_uc0003_01") 513), Option.none, (.ref 169), PySem.Value.none, 0⟩, #[]⟩
noncomputable def o171 (P : Params) : Obj := ⟨(.type "tuple"), Option.none, (.seq #[] 0), #[]⟩
noncomputable def o173 (P : Params) : Obj := ⟨(.type "tuple"), Option.none, (.seq #[(.str (.ofString "leads") 593), (.str (.ofString "rings") 594), (.str (.ofString "first") 595), (.str (.ofString "way") 596)] 0), #[]⟩
noncomputable def o174 (P : Params) : Obj := ⟨(.type "tuple"), Option.none, (.seq #[] 0), #[]⟩
noncomputable def o176 (P : Params) : Obj := ⟨(.type "code"), Option.none, (.fields #[(.str (.ofString "_law_rings") 590), (.str (.ofString "_law_rings") 591), (.str (.ofString "/claim/cut.py") 592), (.int 149 0), (.int 1 0), (.int 0 0), (.int 0 0), (.int 3 0), (.ref 171), (.bool Bool.true), (.int 276 0), (.ref 172), PySem.Value.none, (.ref 173), (.ref 174), (.ref 175), (.int 597 0), (.int 149 0), (.str (.ofString "/claim/cut.py") 598)]), #[]⟩
noncomputable abbrev a177 : Arguments := by
  refine (?f : ∀ {nm : Str} {a : Arguments} {b : List Stmt} {ds : List Expr} {ret : Option Expr} {tps : List TypeParam} {sc : Scope} {tsc : Option Scope} {bd : Str} {pos : Pos}, stmtAt 29 = some (.FunctionDef nm a b ds ret tps sc tsc bd pos) → Arguments) rfl
  exact fun {nm a b ds ret tps sc tsc bd pos} _ => a
noncomputable abbrev b177 : List Stmt := by
  refine (?f : ∀ {nm : Str} {a : Arguments} {b : List Stmt} {ds : List Expr} {ret : Option Expr} {tps : List TypeParam} {sc : Scope} {tsc : Option Scope} {bd : Str} {pos : Pos}, stmtAt 29 = some (.FunctionDef nm a b ds ret tps sc tsc bd pos) → List Stmt) rfl
  exact fun {nm a b ds ret tps sc tsc bd pos} _ => b
noncomputable abbrev s177 : Scope := by
  refine (?f : ∀ {nm : Str} {a : Arguments} {b : List Stmt} {ds : List Expr} {ret : Option Expr} {tps : List TypeParam} {sc : Scope} {tsc : Option Scope} {bd : Str} {pos : Pos}, stmtAt 29 = some (.FunctionDef nm a b ds ret tps sc tsc bd pos) → Scope) rfl
  exact fun {nm a b ds ret tps sc tsc bd pos} _ => sc
noncomputable def o177 (P : Params) : Obj := ⟨(.type "function"), Option.none, .func ⟨(.ofString "_law_rings"), (.ofString "_law_rings"), a177, .stmts b177, s177, 3, [], PySem.Value.none, PySem.Value.none, PySem.Value.none, (.str (.ofString "law_uc0003_01") 513), Option.none, (.ref 176), PySem.Value.none, 0⟩, #[]⟩
noncomputable def o178 (P : Params) : Obj := ⟨(.type "tuple"), Option.none, (.seq #[] 0), #[]⟩
noncomputable def o181 (P : Params) : Obj := ⟨(.type "code"), Option.none, (.fields #[(.str (.ofString "_law_walks") 600), (.str (.ofString "_law_walks") 601), (.str (.ofString "/claim/cut.py") 602), (.int 158 0), (.int 2 0), (.int 0 0), (.int 0 0), (.int 3 0), (.ref 178), (.bool Bool.true), (.int 276 0), (.ref 179), PySem.Value.none, PySem.Value.none, PySem.Value.none, (.ref 180), (.int 603 0), (.int 158 0), (.str (.ofString "/claim/cut.py") 604)]), #[]⟩
noncomputable abbrev a182 : Arguments := by
  refine (?f : ∀ {nm : Str} {a : Arguments} {b : List Stmt} {ds : List Expr} {ret : Option Expr} {tps : List TypeParam} {sc : Scope} {tsc : Option Scope} {bd : Str} {pos : Pos}, stmtAt 30 = some (.FunctionDef nm a b ds ret tps sc tsc bd pos) → Arguments) rfl
  exact fun {nm a b ds ret tps sc tsc bd pos} _ => a
noncomputable abbrev b182 : List Stmt := by
  refine (?f : ∀ {nm : Str} {a : Arguments} {b : List Stmt} {ds : List Expr} {ret : Option Expr} {tps : List TypeParam} {sc : Scope} {tsc : Option Scope} {bd : Str} {pos : Pos}, stmtAt 30 = some (.FunctionDef nm a b ds ret tps sc tsc bd pos) → List Stmt) rfl
  exact fun {nm a b ds ret tps sc tsc bd pos} _ => b
noncomputable abbrev s182 : Scope := by
  refine (?f : ∀ {nm : Str} {a : Arguments} {b : List Stmt} {ds : List Expr} {ret : Option Expr} {tps : List TypeParam} {sc : Scope} {tsc : Option Scope} {bd : Str} {pos : Pos}, stmtAt 30 = some (.FunctionDef nm a b ds ret tps sc tsc bd pos) → Scope) rfl
  exact fun {nm a b ds ret tps sc tsc bd pos} _ => sc
noncomputable def o182 (P : Params) : Obj := ⟨(.type "function"), Option.none, .func ⟨(.ofString "_law_walks"), (.ofString "_law_walks"), a182, .stmts b182, s182, 3, [], PySem.Value.none, PySem.Value.none, PySem.Value.none, (.str (.ofString "law_uc0003_01") 513), Option.none, (.ref 181), PySem.Value.none, 0⟩, #[]⟩
noncomputable def o183 (P : Params) : Obj := ⟨(.type "tuple"), Option.none, (.seq #[] 0), #[]⟩
noncomputable def o186 (P : Params) : Obj := ⟨(.type "code"), Option.none, (.fields #[(.str (.ofString "law") 606), (.str (.ofString "law") 607), (.str (.ofString "/claim/cut.py") 608), (.int 176 0), (.int 1 0), (.int 0 0), (.int 0 0), (.int 3 0), (.ref 183), (.bool Bool.true), (.int 276 0), (.ref 184), PySem.Value.none, PySem.Value.none, PySem.Value.none, (.ref 185), (.int 609 0), (.int 176 0), (.str (.ofString "/claim/cut.py") 610)]), #[]⟩
noncomputable abbrev a187 : Arguments := by
  refine (?f : ∀ {nm : Str} {a : Arguments} {b : List Stmt} {ds : List Expr} {ret : Option Expr} {tps : List TypeParam} {sc : Scope} {tsc : Option Scope} {bd : Str} {pos : Pos}, stmtAt 31 = some (.FunctionDef nm a b ds ret tps sc tsc bd pos) → Arguments) rfl
  exact fun {nm a b ds ret tps sc tsc bd pos} _ => a
noncomputable abbrev c187_2 : List Stmt := by
  refine (?f : ∀ {nm : Str} {a : Arguments} {ds : List Expr} {ret : Option Expr} {tps : List TypeParam} {sc : Scope} {tsc : Option Scope} {bd : Str} {pos : Pos} {y0 : Stmt} {y1 : Stmt} {y2 : Stmt} {y3 : Stmt} {y4 : Stmt} {y5 : Stmt} {y6 : Stmt} {y7 : Stmt} {y8 : Stmt} {y9 : Stmt} {y10 : Stmt} {y11 : Stmt} {y12 : Stmt} {r : List Stmt}, stmtAt 31 = some (.FunctionDef nm a (y0 :: y1 :: y2 :: y3 :: y4 :: y5 :: y6 :: y7 :: y8 :: y9 :: y10 :: y11 :: y12 :: r) ds ret tps sc tsc bd pos) → List Stmt) rfl
  exact fun {nm a ds ret tps sc tsc bd pos y0 y1 y2 y3 y4 y5 y6 y7 y8 y9 y10 y11 y12 r} _ => r
noncomputable abbrev c187_1 : List Stmt := by
  refine (?f : ∀ {nm : Str} {a : Arguments} {ds : List Expr} {ret : Option Expr} {tps : List TypeParam} {sc : Scope} {tsc : Option Scope} {bd : Str} {pos : Pos} {y0 : Stmt} {y1 : Stmt} {y2 : Stmt} {y3 : Stmt} {y4 : Stmt} {y5 : Stmt} {y6 : Stmt} {y7 : Stmt} {y8 : Stmt} {y9 : Stmt} {y10 : Stmt} {y11 : Stmt} {y12 : Stmt}, stmtAt 31 = some (.FunctionDef nm a (y0 :: y1 :: y2 :: y3 :: y4 :: y5 :: y6 :: y7 :: y8 :: y9 :: y10 :: y11 :: y12 :: c187_2) ds ret tps sc tsc bd pos) → List Stmt) rfl
  exact fun {nm a ds ret tps sc tsc bd pos y0 y1 y2 y3 y4 y5 y6 y7 y8 y9 y10 y11 y12} _ => y7 :: y8 :: y9 :: y10 :: y11 :: y12 :: c187_2
noncomputable abbrev b187 : List Stmt := by
  refine (?f : ∀ {nm : Str} {a : Arguments} {ds : List Expr} {ret : Option Expr} {tps : List TypeParam} {sc : Scope} {tsc : Option Scope} {bd : Str} {pos : Pos} {y0 : Stmt} {y1 : Stmt} {y2 : Stmt} {y3 : Stmt} {y4 : Stmt} {y5 : Stmt} {y6 : Stmt}, stmtAt 31 = some (.FunctionDef nm a (y0 :: y1 :: y2 :: y3 :: y4 :: y5 :: y6 :: c187_1) ds ret tps sc tsc bd pos) → List Stmt) rfl
  exact fun {nm a ds ret tps sc tsc bd pos y0 y1 y2 y3 y4 y5 y6} _ => y0 :: y1 :: y2 :: y3 :: y4 :: y5 :: y6 :: c187_1
noncomputable abbrev m187_3 : List (Str × NameKind) := by
  refine (?f : ∀ {nm : Str} {a : Arguments} {b : List Stmt} {ds : List Expr} {ret : Option Expr} {tps : List TypeParam} {tsc : Option Scope} {bd : Str} {pos : Pos} {k : ScopeKind} {g co : Bool} {mo : List (Str × Const)} {y0 : Str × NameKind} {y1 : Str × NameKind} {y2 : Str × NameKind} {y3 : Str × NameKind} {y4 : Str × NameKind} {y5 : Str × NameKind} {y6 : Str × NameKind} {y7 : Str × NameKind} {y8 : Str × NameKind} {y9 : Str × NameKind} {y10 : Str × NameKind} {y11 : Str × NameKind} {y12 : Str × NameKind} {y13 : Str × NameKind} {y14 : Str × NameKind} {y15 : Str × NameKind} {y16 : Str × NameKind} {y17 : Str × NameKind} {y18 : Str × NameKind} {y19 : Str × NameKind} {y20 : Str × NameKind} {y21 : Str × NameKind} {y22 : Str × NameKind} {y23 : Str × NameKind} {y24 : Str × NameKind} {y25 : Str × NameKind} {y26 : Str × NameKind} {y27 : Str × NameKind} {y28 : Str × NameKind} {y29 : Str × NameKind} {y30 : Str × NameKind} {y31 : Str × NameKind} {y32 : Str × NameKind} {y33 : Str × NameKind} {y34 : Str × NameKind} {y35 : Str × NameKind} {r : List (Str × NameKind)}, stmtAt 31 = some (.FunctionDef nm a b ds ret tps ⟨k, y0 :: y1 :: y2 :: y3 :: y4 :: y5 :: y6 :: y7 :: y8 :: y9 :: y10 :: y11 :: y12 :: y13 :: y14 :: y15 :: y16 :: y17 :: y18 :: y19 :: y20 :: y21 :: y22 :: y23 :: y24 :: y25 :: y26 :: y27 :: y28 :: y29 :: y30 :: y31 :: y32 :: y33 :: y34 :: y35 :: r, g, co, mo⟩ tsc bd pos) → List (Str × NameKind)) rfl
  exact fun {nm a b ds ret tps tsc bd pos k g co mo y0 y1 y2 y3 y4 y5 y6 y7 y8 y9 y10 y11 y12 y13 y14 y15 y16 y17 y18 y19 y20 y21 y22 y23 y24 y25 y26 y27 y28 y29 y30 y31 y32 y33 y34 y35 r} _ => r
noncomputable abbrev m187_2 : List (Str × NameKind) := by
  refine (?f : ∀ {nm : Str} {a : Arguments} {b : List Stmt} {ds : List Expr} {ret : Option Expr} {tps : List TypeParam} {tsc : Option Scope} {bd : Str} {pos : Pos} {k : ScopeKind} {g co : Bool} {mo : List (Str × Const)} {y0 : Str × NameKind} {y1 : Str × NameKind} {y2 : Str × NameKind} {y3 : Str × NameKind} {y4 : Str × NameKind} {y5 : Str × NameKind} {y6 : Str × NameKind} {y7 : Str × NameKind} {y8 : Str × NameKind} {y9 : Str × NameKind} {y10 : Str × NameKind} {y11 : Str × NameKind} {y12 : Str × NameKind} {y13 : Str × NameKind} {y14 : Str × NameKind} {y15 : Str × NameKind} {y16 : Str × NameKind} {y17 : Str × NameKind} {y18 : Str × NameKind} {y19 : Str × NameKind} {y20 : Str × NameKind} {y21 : Str × NameKind} {y22 : Str × NameKind} {y23 : Str × NameKind} {y24 : Str × NameKind} {y25 : Str × NameKind} {y26 : Str × NameKind} {y27 : Str × NameKind} {y28 : Str × NameKind} {y29 : Str × NameKind} {y30 : Str × NameKind} {y31 : Str × NameKind} {y32 : Str × NameKind} {y33 : Str × NameKind} {y34 : Str × NameKind} {y35 : Str × NameKind}, stmtAt 31 = some (.FunctionDef nm a b ds ret tps ⟨k, y0 :: y1 :: y2 :: y3 :: y4 :: y5 :: y6 :: y7 :: y8 :: y9 :: y10 :: y11 :: y12 :: y13 :: y14 :: y15 :: y16 :: y17 :: y18 :: y19 :: y20 :: y21 :: y22 :: y23 :: y24 :: y25 :: y26 :: y27 :: y28 :: y29 :: y30 :: y31 :: y32 :: y33 :: y34 :: y35 :: m187_3, g, co, mo⟩ tsc bd pos) → List (Str × NameKind)) rfl
  exact fun {nm a b ds ret tps tsc bd pos k g co mo y0 y1 y2 y3 y4 y5 y6 y7 y8 y9 y10 y11 y12 y13 y14 y15 y16 y17 y18 y19 y20 y21 y22 y23 y24 y25 y26 y27 y28 y29 y30 y31 y32 y33 y34 y35} _ => y24 :: y25 :: y26 :: y27 :: y28 :: y29 :: y30 :: y31 :: y32 :: y33 :: y34 :: y35 :: m187_3
noncomputable abbrev m187_1 : List (Str × NameKind) := by
  refine (?f : ∀ {nm : Str} {a : Arguments} {b : List Stmt} {ds : List Expr} {ret : Option Expr} {tps : List TypeParam} {tsc : Option Scope} {bd : Str} {pos : Pos} {k : ScopeKind} {g co : Bool} {mo : List (Str × Const)} {y0 : Str × NameKind} {y1 : Str × NameKind} {y2 : Str × NameKind} {y3 : Str × NameKind} {y4 : Str × NameKind} {y5 : Str × NameKind} {y6 : Str × NameKind} {y7 : Str × NameKind} {y8 : Str × NameKind} {y9 : Str × NameKind} {y10 : Str × NameKind} {y11 : Str × NameKind} {y12 : Str × NameKind} {y13 : Str × NameKind} {y14 : Str × NameKind} {y15 : Str × NameKind} {y16 : Str × NameKind} {y17 : Str × NameKind} {y18 : Str × NameKind} {y19 : Str × NameKind} {y20 : Str × NameKind} {y21 : Str × NameKind} {y22 : Str × NameKind} {y23 : Str × NameKind}, stmtAt 31 = some (.FunctionDef nm a b ds ret tps ⟨k, y0 :: y1 :: y2 :: y3 :: y4 :: y5 :: y6 :: y7 :: y8 :: y9 :: y10 :: y11 :: y12 :: y13 :: y14 :: y15 :: y16 :: y17 :: y18 :: y19 :: y20 :: y21 :: y22 :: y23 :: m187_2, g, co, mo⟩ tsc bd pos) → List (Str × NameKind)) rfl
  exact fun {nm a b ds ret tps tsc bd pos k g co mo y0 y1 y2 y3 y4 y5 y6 y7 y8 y9 y10 y11 y12 y13 y14 y15 y16 y17 y18 y19 y20 y21 y22 y23} _ => y12 :: y13 :: y14 :: y15 :: y16 :: y17 :: y18 :: y19 :: y20 :: y21 :: y22 :: y23 :: m187_2
noncomputable abbrev s187 : Scope := by
  refine (?f : ∀ {nm : Str} {a : Arguments} {b : List Stmt} {ds : List Expr} {ret : Option Expr} {tps : List TypeParam} {tsc : Option Scope} {bd : Str} {pos : Pos} {k : ScopeKind} {g co : Bool} {mo : List (Str × Const)} {y0 : Str × NameKind} {y1 : Str × NameKind} {y2 : Str × NameKind} {y3 : Str × NameKind} {y4 : Str × NameKind} {y5 : Str × NameKind} {y6 : Str × NameKind} {y7 : Str × NameKind} {y8 : Str × NameKind} {y9 : Str × NameKind} {y10 : Str × NameKind} {y11 : Str × NameKind}, stmtAt 31 = some (.FunctionDef nm a b ds ret tps ⟨k, y0 :: y1 :: y2 :: y3 :: y4 :: y5 :: y6 :: y7 :: y8 :: y9 :: y10 :: y11 :: m187_1, g, co, mo⟩ tsc bd pos) → Scope) rfl
  exact fun {nm a b ds ret tps tsc bd pos k g co mo y0 y1 y2 y3 y4 y5 y6 y7 y8 y9 y10 y11} _ => ⟨k, y0 :: y1 :: y2 :: y3 :: y4 :: y5 :: y6 :: y7 :: y8 :: y9 :: y10 :: y11 :: m187_1, g, co, mo⟩
noncomputable def o187 (P : Params) : Obj := ⟨(.type "function"), Option.none, .func ⟨(.ofString "law"), (.ofString "law"), a187, .stmts b187, s187, 3, [], PySem.Value.none, PySem.Value.none, PySem.Value.none, (.str (.ofString "law_uc0003_01") 513), Option.none, (.ref 186), PySem.Value.none, 0⟩, #[]⟩
noncomputable def K (P : Params) : Frag := (nat_lit 2, o2 P) :: (nat_lit 3, o3 P) :: (nat_lit 35, o35 P) :: (nat_lit 36, o36 P) :: (nat_lit 40, o40 P) :: (nat_lit 41, o41 P) :: (nat_lit 42, o42 P) :: (nat_lit 44, o44 P) :: (nat_lit 45, o45 P) :: (nat_lit 47, o47 P) :: (nat_lit 48, o48 P) :: (nat_lit 49, o49 P) :: (nat_lit 51, o51 P) :: (nat_lit 52, o52 P) :: (nat_lit 54, o54 P) :: (nat_lit 55, o55 P) :: (nat_lit 56, o56 P) :: (nat_lit 58, o58 P) :: (nat_lit 59, o59 P) :: (nat_lit 61, o61 P) :: (nat_lit 62, o62 P) :: (nat_lit 63, o63 P) :: (nat_lit 65, o65 P) :: (nat_lit 66, o66 P) :: (nat_lit 68, o68 P) :: (nat_lit 69, o69 P) :: (nat_lit 70, o70 P) :: (nat_lit 72, o72 P) :: (nat_lit 73, o73 P) :: (nat_lit 75, o75 P) :: (nat_lit 76, o76 P) :: (nat_lit 77, o77 P) :: (nat_lit 79, o79 P) :: (nat_lit 80, o80 P) :: (nat_lit 82, o82 P) :: (nat_lit 83, o83 P) :: (nat_lit 84, o84 P) :: (nat_lit 86, o86 P) :: (nat_lit 87, o87 P) :: (nat_lit 89, o89 P) :: (nat_lit 90, o90 P) :: (nat_lit 91, o91 P) :: (nat_lit 93, o93 P) :: (nat_lit 94, o94 P) :: (nat_lit 96, o96 P) :: (nat_lit 97, o97 P) :: (nat_lit 105, o105 P) :: (nat_lit 109, o109 P) :: (nat_lit 111, o111 P) :: (nat_lit 112, o112 P) :: (nat_lit 114, o114 P) :: (nat_lit 115, o115 P) :: (nat_lit 116, o116 P) :: (nat_lit 119, o119 P) :: (nat_lit 120, o120 P) :: (nat_lit 121, o121 P) :: (nat_lit 123, o123 P) :: (nat_lit 124, o124 P) :: (nat_lit 126, o126 P) :: (nat_lit 127, o127 P) :: (nat_lit 128, o128 P) :: (nat_lit 130, o130 P) :: (nat_lit 131, o131 P) :: (nat_lit 133, o133 P) :: (nat_lit 134, o134 P) :: (nat_lit 135, o135 P) :: (nat_lit 137, o137 P) :: (nat_lit 138, o138 P) :: (nat_lit 140, o140 P) :: (nat_lit 141, o141 P) :: (nat_lit 142, o142 P) :: (nat_lit 145, o145 P) :: (nat_lit 146, o146 P) :: (nat_lit 147, o147 P) :: (nat_lit 150, o150 P) :: (nat_lit 151, o151 P) :: (nat_lit 152, o152 P) :: (nat_lit 155, o155 P) :: (nat_lit 156, o156 P) :: (nat_lit 157, o157 P) :: (nat_lit 159, o159 P) :: (nat_lit 160, o160 P) :: (nat_lit 162, o162 P) :: (nat_lit 163, o163 P) :: (nat_lit 164, o164 P) :: (nat_lit 166, o166 P) :: (nat_lit 167, o167 P) :: (nat_lit 169, o169 P) :: (nat_lit 170, o170 P) :: (nat_lit 171, o171 P) :: (nat_lit 173, o173 P) :: (nat_lit 174, o174 P) :: (nat_lit 176, o176 P) :: (nat_lit 177, o177 P) :: (nat_lit 178, o178 P) :: (nat_lit 181, o181 P) :: (nat_lit 182, o182 P) :: (nat_lit 183, o183 P) :: (nat_lit 186, o186 P) :: (nat_lit 187, o187 P) :: []
noncomputable def Kas : List Addr := 2 :: 3 :: 35 :: 36 :: 40 :: 41 :: 42 :: 44 :: 45 :: 47 :: 48 :: 49 :: 51 :: 52 :: 54 :: 55 :: 56 :: 58 :: 59 :: 61 :: 62 :: 63 :: 65 :: 66 :: 68 :: 69 :: 70 :: 72 :: 73 :: 75 :: 76 :: 77 :: 79 :: 80 :: 82 :: 83 :: 84 :: 86 :: 87 :: 89 :: 90 :: 91 :: 93 :: 94 :: 96 :: 97 :: 105 :: 109 :: 111 :: 112 :: 114 :: 115 :: 116 :: 119 :: 120 :: 121 :: 123 :: 124 :: 126 :: 127 :: 128 :: 130 :: 131 :: 133 :: 134 :: 135 :: 137 :: 138 :: 140 :: 141 :: 142 :: 145 :: 146 :: 147 :: 150 :: 151 :: 152 :: 155 :: 156 :: 157 :: 159 :: 160 :: 162 :: 163 :: 164 :: 166 :: 167 :: 169 :: 170 :: 171 :: 173 :: 174 :: 176 :: 177 :: 178 :: 181 :: 182 :: 183 :: 186 :: 187 :: []
end
section
open PySem PySem.W PyProof.Rows
noncomputable def keepL : List Nat := [0, 2, 3, 4, 5, 7, 8, 9, 10, 11, 12, 13, 15, 17, 18, 20, 21, 22, 23, 24, 25, 26, 27, 28, 29, 30, 31]
noncomputable def vq : Program := view PySem.Challenge.pw_uc0003_01 keepL
noncomputable def looseL : List Str := [.ofString "_twin_re_1", .ofString "_twin_re_2", .ofString "b1_set"]
theorem K_as (P : Params) : Kas = (K P).map (·.1) := by kernel_rfl
end
end Mine
lay_quick Mine.looseL PySem.W.staticsOk PySem.W.namesBound PySem.W.gensDone PySem.W.laidKept PySem.W.recOk PySem.W.openGood PySem.W.openEnds PySem.W.fencedOpening PySem.W.topFrom PySem.W.kHook
namespace Mine
section
open PySem PySem.W PyProof.Rows
noncomputable abbrev LeftAt (w : World) : Prop := (openEnds treeTable PySem.Challenge.pw_uc0003_01 w 3832).map (fun s => (openSeen vq looseL (importedModules PySem.Challenge.pw_uc0003_01.main.body) (fun s => xlAt vq [] s && recOk [] s) true s, Kas.map s.heap.get?)) = some (openGood vq looseL, (K (w).params).map fun p => some p.2)
set_option maxHeartbeats 0 in
theorem left_ff (w : World) : LeftAt ((w.withFollow "special-get-raises" false).withFollow "set-order" false) := by
  unfold LeftAt
  rw [PySem.W.Fast.te15552708684749139287, PySem.W.Fast.te4187177175401517315, PySem.W.Fast.te3486900944545009338, PySem.W.Fast.te506986476082146642, PySem.W.Fast.te6483871617321286689, PySem.W.Fast.te14364793385576792824, PySem.W.Fast.te5923862056798008813]
  kernel_rfl
set_option maxHeartbeats 0 in
theorem left_ft (w : World) : LeftAt ((w.withFollow "special-get-raises" true).withFollow "set-order" false) := by
  unfold LeftAt
  rw [PySem.W.Fast.te15552708684749139287, PySem.W.Fast.te4187177175401517315, PySem.W.Fast.te3486900944545009338, PySem.W.Fast.te506986476082146642, PySem.W.Fast.te6483871617321286689, PySem.W.Fast.te14364793385576792824, PySem.W.Fast.te5923862056798008813]
  kernel_rfl
set_option maxHeartbeats 0 in
theorem left_tf (w : World) : LeftAt ((w.withFollow "special-get-raises" false).withFollow "set-order" true) := by
  unfold LeftAt
  rw [PySem.W.Fast.te15552708684749139287, PySem.W.Fast.te4187177175401517315, PySem.W.Fast.te3486900944545009338, PySem.W.Fast.te506986476082146642, PySem.W.Fast.te6483871617321286689, PySem.W.Fast.te14364793385576792824, PySem.W.Fast.te5923862056798008813]
  kernel_rfl
set_option maxHeartbeats 0 in
theorem left_tt (w : World) : LeftAt ((w.withFollow "special-get-raises" true).withFollow "set-order" true) := by
  unfold LeftAt
  rw [PySem.W.Fast.te15552708684749139287, PySem.W.Fast.te4187177175401517315, PySem.W.Fast.te3486900944545009338, PySem.W.Fast.te506986476082146642, PySem.W.Fast.te6483871617321286689, PySem.W.Fast.te14364793385576792824, PySem.W.Fast.te5923862056798008813]
  kernel_rfl
theorem left : LeftO PySem.Challenge.pw_uc0003_01 vq looseL (fun s => xlAt vq [] s && recOk [] s) (Hook.obs (kHook K Kas K_as)) (Hook.val (kHook K Kas K_as)) 3832 := by
  have go : ∀ w : World, LeftAt w := byRow2 "set-order" (P := LeftAt) (byRow2 "special-get-raises" (P := fun w => LeftAt (w.withFollow "set-order" false)) left_ff left_ft) (byRow2 "special-get-raises" (P := fun w => LeftAt (w.withFollow "set-order" true)) left_tf left_tt)
  exact go
end
section
open PySem.Sre
/-! the two patterns' machines, with no heap in sight -/
noncomputable def it : Nat → M → M
  | 0, m => m
  | k + 1, m => it k (M.step m)
theorem it_add : ∀ (a b : Nat) (m : M), it (a + b) m = it b (it a m) := by
  intro a
  induction a with
  | zero =>
    intro b m
    rw [Nat.zero_add]; rfl
  | succ a ih =>
    intro b m
    rw [Nat.add_right_comm]; exact ih b _
theorem step_done {m : M} (h : m.outcome.isSome = true) : M.step m = m := by
  unfold M.step
  rw [if_pos h]
theorem it_done {m : M} (h : m.outcome.isSome = true) : ∀ k, it k m = m
  | 0 => rfl
  | k + 1 => by unfold it; rw [step_done h]; exact it_done h k
theorem runFor_it : ∀ (n : Nat) (m : M), M.runFor n m = it n m := by
  intro n
  induction n with
  | zero =>
    intro _
    exact rfl
  | succ n ih =>
    intro m
    unfold M.runFor
    by_cases h : m.outcome.isSome = true
    · rw [if_pos h, it_done h]
    · rw [if_neg h]; exact ih _
/-- the machine comes to this end within so many steps -/
noncomputable def Ends (m : M) (k : Nat) (P : M → Prop) : Prop := ∃ j, j ≤ k ∧ (it j m).outcome.isSome = true ∧ P (it j m)
theorem Ends.step {m : M} {k : Nat} {P : M → Prop} (h : Ends (M.step m) k P) : Ends m (k + 1) P := let ⟨j, a, b, c⟩ := h; ⟨j + 1, by lia, b, c⟩
theorem Ends.mono {m : M} {k k' : Nat} {P P' : M → Prop} (h : Ends m k P) (hk : k ≤ k') (hp : ∀ m, P m → P' m) : Ends m k' P' := let ⟨j, a, b, c⟩ := h; ⟨j, by lia, b, hp _ c⟩
theorem Ends.now {m : M} {P : M → Prop} (h1 : m.outcome.isSome = true) (h : P m) : Ends m 0 P := ⟨0, Nat.le_refl _, h1, h⟩
noncomputable abbrev Found (j e : Nat) (m : M) : Prop := m.outcome = some .matched ∧ m.start = j ∧ m.handed = e
noncomputable abbrev Lost (m : M) : Prop := m.outcome = some .failed
noncomputable def code1 : Array Nat := #[14, 4, 0, 1, 1, 6, 1, 16, 46, 1]
/-- a state of the first machine -/
noncomputable def st1 (text : Array Nat) (start pc pos handed : Nat) (must first : Bool) (frames : List PySem.Sre.Frame) (weight : Nat) (answer : Option Bool) (seen : Seen) : M :=
  { code := code1, text, lim := text.size, start, lastStart := text.size, mustAdvance := must, pc, pos, handed, outermost := first, marks := #[], frames, weight, answer, seen }
noncomputable abbrev fr1 (s : Nat) (first : Bool) : PySem.Sre.Frame := { wait := .nextStart, pc := 5, pos := s, outermost := first }
section
variable (text : Array Nat) (s : Nat) (must first : Bool) (seen : Seen)
theorem s1_at : ∃ seen', M.step (st1 text s 5 s s must first [fr1 s first] 1 none seen) =
    if (s == 0 || text.getD (s - 1) 0 == 10) = true then st1 text s 7 s s must first [fr1 s first] 1 none seen' else st1 text s 5 s s must first [fr1 s first] 1 (some false) seen' := ⟨_, rfl⟩
theorem s1_lit : ∃ seen', M.step (st1 text s 7 s s must first [fr1 s first] 1 none seen) =
    if s < text.size ∧ text.getD s 0 = 46 then st1 text s 9 (s + 1) s must first [fr1 s first] 1 none seen' else st1 text s 7 s s must first [fr1 s first] 1 (some false) seen' := by
  refine ⟨seen.add 16, ?_⟩
  show (if s ≥ text.size then _ else match (Except.ok (text.getD s 0 == 46, _) : Except String (Bool × Seen)) with | .error why => _ | .ok (false, seen) => _ | .ok (true, seen) => _) = _
  by_cases h : s ≥ text.size
  · rw [if_pos h, if_neg (by lia)]; rfl
  · rw [if_neg h]
    by_cases h2 : text.getD s 0 = 46
    · rw [if_pos ⟨by lia, h2⟩, show (text.getD s 0 == 46) = true from beq_iff_eq.mpr h2]; rfl
    · rw [if_neg (by rintro ⟨_, q⟩; exact h2 q), show (text.getD s 0 == 46) = false from beq_eq_false_iff_ne.mpr h2]; rfl
theorem s1_ok : ∃ seen', M.step (st1 text s 9 (s + 1) s must first [fr1 s first] 1 none seen) = st1 text s 9 (s + 1) (s + 1) must first [fr1 s first] 1 (some true) seen' := by
  refine ⟨seen.add 1, ?_⟩
  show (if (first && ((false && _) || (must && (s + 1 == s)))) = true then _ else _) = _
  rw [show (s + 1 == s) = false from beq_eq_false_iff_ne.mpr (by lia)]
  simp only [Bool.false_and, Bool.and_false, Bool.or_false, Bool.false_eq_true, if_false]
  rfl
theorem s1_yes : M.step (M.step (st1 text s 9 (s + 1) (s + 1) must first [fr1 s first] 1 (some true) seen)) = { st1 text s 5 s (s + 1) must first [] 0 (some true) seen with outcome := some .matched } := rfl
theorem s1_no (pc : Nat) : M.step (st1 text s pc s s must first [fr1 s first] 1 (some false) seen) =
    if s < text.size then st1 text (s + 1) 5 (s + 1) (s + 1) false false [fr1 (s + 1) false] 1 none seen else st1 text s 5 s s must first [] 0 (some false) seen := rfl
theorem s1_lost (pc : Nat) : M.step (st1 text s pc s s must first [] 0 (some false) seen) = { st1 text s pc s s must first [] 0 (some false) seen with outcome := some .failed } := rfl
/-- where a row begins with a dot -/
noncomputable def dotAt (text : Array Nat) (s : Nat) : Bool := (s == 0 || text.getD (s - 1) 0 == 10) && decide (s < text.size) && text.getD s 0 == 46
noncomputable def findDot (text : Array Nat) : Nat → Nat → Option Nat
  | 0, s => none
  | f + 1, s => if dotAt text s = true then some s else findDot text f (s + 1)
theorem try1 : Ends (st1 text s 5 s s must first [fr1 s first] 1 none seen) 5 (fun m => dotAt text s = true ∧ Found s (s + 1) m) ∨
    (dotAt text s = false ∧ ∃ j seen', j ≤ 2 ∧ ∃ pc, it j (st1 text s 5 s s must first [fr1 s first] 1 none seen) = st1 text s pc s s must first [fr1 s first] 1 (some false) seen') := by
  obtain ⟨w1, h1⟩ := s1_at text s must first seen
  by_cases c1 : (s == 0 || text.getD (s - 1) 0 == 10) = true
  · rw [if_pos c1] at h1
    obtain ⟨w2, h2⟩ := s1_lit text s must first w1
    by_cases c2 : s < text.size ∧ text.getD s 0 = 46
    · rw [if_pos c2] at h2
      obtain ⟨w3, h3⟩ := s1_ok text s must first w2
      have hd : dotAt text s = true := by unfold dotAt; rw [c1, decide_eq_true c2.1, beq_iff_eq.mpr c2.2]; rfl
      refine .inl (Ends.step ?_)
      rw [h1]
      refine Ends.step ?_
      rw [h2]
      refine Ends.step ?_
      rw [h3]
      refine Ends.step (Ends.step ?_)
      rw [s1_yes]
      exact Ends.now rfl ⟨hd, rfl, rfl, rfl⟩
    · rw [if_neg c2] at h2
      refine .inr ⟨?_, 2, w2, Nat.le_refl _, 7, ?_⟩
      · unfold dotAt
        rw [c1, Bool.true_and, Bool.and_eq_false_iff, decide_eq_false_iff_not, beq_eq_false_iff_ne]
        by_cases q : s < text.size
        · exact .inr fun e => c2 ⟨q, e⟩
        · exact .inl q
      · show M.step (M.step _) = _
        rw [h1, h2]
  · rw [if_neg c1] at h1
    refine .inr ⟨?_, 1, w1, by lia, 5, h1⟩
    unfold dotAt
    rw [Bool.not_eq_true] at c1
    rw [c1]; rfl
theorem Ends.after {m m' : M} {j k : Nat} {P : M → Prop} (e : it j m = m') (h : Ends m' k P) : Ends m (j + k) P := by
  obtain ⟨i, a, b, c⟩ := h
  subst e
  exact ⟨j + i, by lia, by rw [it_add]; exact b, by rw [it_add]; exact c⟩
end
theorem search1 (text : Array Nat) : ∀ (f s : Nat), s + f = text.size → ∀ must first seen, Ends (st1 text s 5 s s must first [fr1 s first] 1 none seen) (5 * (f + 1)) fun m => match findDot text f s with | some j => Found j (j + 1) m | none => Lost m
  | 0, s, hs, must, first, seen => by
    rcases try1 text s must first seen with h | ⟨hd, j, w, hj, pc, e⟩
    · exfalso
      obtain ⟨_, _, _, q, _⟩ := h
      unfold dotAt at q
      rw [decide_eq_false (show ¬ s < text.size by lia)] at q
      simp at q
    · refine Ends.mono (Ends.after e (k := 2) ?_) (by lia) fun _ h => h
      refine Ends.step ?_
      rw [s1_no, if_neg (by lia)]
      refine Ends.step ?_
      rw [s1_lost]
      exact Ends.now rfl rfl
  | f + 1, s, hs, must, first, seen => by
    rcases try1 text s must first seen with h | ⟨hd, j, w, hj, pc, e⟩
    · refine h.mono (by lia) fun m hPat => ?_
      obtain ⟨h1, h2⟩ := hPat
      unfold findDot
      rw [if_pos h1]
      exact h2
    · refine Ends.mono (Ends.after e (k := 5 * (f + 1) + 1) ?_) (by lia) fun _ h => h
      refine Ends.step ?_
      rw [s1_no, if_pos (by lia)]
      refine (search1 text f (s + 1) (by lia) false false w).mono (Nat.le_refl _) fun m h => ?_
      unfold findDot
      rw [if_neg (by rw [hd]; decide)]
      exact h
theorem forSearch1 (text : Array Nat) (p : Nat) (hp : p ≤ text.size) (must : Bool) : Ends (forSearch code1 text 0 p text.size must) (5 * (text.size + 1)) fun m => match findDot text (text.size - p) p with | some j => Found j (j + 1) m | none => Lost m := by
  by_cases h : text.size - p < 1
  · have e : ∃ seen, forSearch code1 text 0 p text.size must = { st1 text p 5 p p must true [] 0 (some false) seen with lastStart := 0 } := by
      refine ⟨({} : Seen).add 14, ?_⟩
      show (if (decide (p > text.size) || decide (text.size - p < 1)) = true then _ else _) = _
      rw [if_pos (by rw [decide_eq_true h, Bool.or_true])]; rfl
    obtain ⟨w, e⟩ := e
    rw [e, show text.size - p = 0 by lia]
    exact ⟨1, by lia, rfl, rfl⟩
  · have e : ∃ seen, forSearch code1 text 0 p text.size must = st1 text p 5 p p must true [fr1 p true] 1 none seen := by
      refine ⟨({} : Seen).add 14, ?_⟩
      show (if (decide (p > text.size) || decide (text.size - p < 1)) = true then _ else _) = _
      rw [if_neg (by rw [decide_eq_false (show ¬ p > text.size by lia), decide_eq_false h]; decide)]; rfl
    obtain ⟨w, e⟩ := e
    rw [e]
    exact (search1 text (text.size - p) p (by lia) must true w).mono (by lia) fun _ h => h
end
section
open PySem.Sre
noncomputable def code2 : Array Nat := #[14, 9, 4, 1, 2, 16, 10, 16, 13, 0, 7, 7, 16, 13, 16, 10, 15, 18, 5, 16, 10, 15, 13, 11, 16, 13, 5, 5, 0, 16, 10, 1, 15, 2, 0, 1]
/-- a state of the second machine -/
noncomputable def st2 (text : Array Nat) (start pc pos handed : Nat) (first : Bool) (frames : List PySem.Sre.Frame) (weight : Nat) (answer : Option Bool) (seen : Seen) : M :=
  { code := code2, text, lim := text.size, start, lastStart := text.size, mustAdvance := false, pc, pos, handed, outermost := first, marks := #[], frames, weight, answer, seen }
noncomputable abbrev fr2 (s : Nat) (first : Bool) : PySem.Sre.Frame := { wait := .nextStart, pc := 10, pos := s, outermost := first }
noncomputable abbrev kp2 : Kept := { lastmark := -1, lastindex := -1, whole := false, marks := #[] }
noncomputable abbrev fb2 (alt s : Nat) (first : Bool) : PySem.Sre.Frame := { wait := .nextBranch, pc := alt, pos := s, outermost := first, kept := kp2 }
noncomputable abbrev fl2 (s : Nat) (first : Bool) : PySem.Sre.Frame := { wait := .lookNot, pc := 26, pos := s, outermost := first, kept := kp2 }
section
variable (text : Array Nat) (s pos handed weight : Nat) (first : Bool) (frames : List PySem.Sre.Frame) (seen : Seen)
theorem s2_lit12 : ∃ seen', M.step (st2 text s 12 pos handed first frames weight none seen) =
    if pos < text.size ∧ text.getD pos 0 = 13 then st2 text s 14 (pos + 1) handed first frames weight none seen' else st2 text s 12 pos handed first frames weight (some false) seen' := by
  refine ⟨seen.add 16, ?_⟩
  show (if pos ≥ text.size then _ else match (Except.ok (text.getD pos 0 == 13, _) : Except String (Bool × Seen)) with | .error why => _ | .ok (false, seen) => _ | .ok (true, seen) => _) = _
  by_cases h : pos ≥ text.size
  · rw [if_pos h, if_neg (by lia)]; rfl
  · rw [if_neg h]
    by_cases h2 : text.getD pos 0 = 13
    · rw [if_pos ⟨by lia, h2⟩, show (text.getD pos 0 == 13) = true from beq_iff_eq.mpr h2]; rfl
    · rw [if_neg (by rintro ⟨_, q⟩; exact h2 q), show (text.getD pos 0 == 13) = false from beq_eq_false_iff_ne.mpr h2]; rfl
theorem s2_lit14 : ∃ seen', M.step (st2 text s 14 pos handed first frames weight none seen) =
    if pos < text.size ∧ text.getD pos 0 = 10 then st2 text s 16 (pos + 1) handed first frames weight none seen' else st2 text s 14 pos handed first frames weight (some false) seen' := by
  refine ⟨seen.add 16, ?_⟩
  show (if pos ≥ text.size then _ else match (Except.ok (text.getD pos 0 == 10, _) : Except String (Bool × Seen)) with | .error why => _ | .ok (false, seen) => _ | .ok (true, seen) => _) = _
  by_cases h : pos ≥ text.size
  · rw [if_pos h, if_neg (by lia)]; rfl
  · rw [if_neg h]
    by_cases h2 : text.getD pos 0 = 10
    · rw [if_pos ⟨by lia, h2⟩, show (text.getD pos 0 == 10) = true from beq_iff_eq.mpr h2]; rfl
    · rw [if_neg (by rintro ⟨_, q⟩; exact h2 q), show (text.getD pos 0 == 10) = false from beq_eq_false_iff_ne.mpr h2]; rfl
theorem s2_lit19 : ∃ seen', M.step (st2 text s 19 pos handed first frames weight none seen) =
    if pos < text.size ∧ text.getD pos 0 = 10 then st2 text s 21 (pos + 1) handed first frames weight none seen' else st2 text s 19 pos handed first frames weight (some false) seen' := by
  refine ⟨seen.add 16, ?_⟩
  show (if pos ≥ text.size then _ else match (Except.ok (text.getD pos 0 == 10, _) : Except String (Bool × Seen)) with | .error why => _ | .ok (false, seen) => _ | .ok (true, seen) => _) = _
  by_cases h : pos ≥ text.size
  · rw [if_pos h, if_neg (by lia)]; rfl
  · rw [if_neg h]
    by_cases h2 : text.getD pos 0 = 10
    · rw [if_pos ⟨by lia, h2⟩, show (text.getD pos 0 == 10) = true from beq_iff_eq.mpr h2]; rfl
    · rw [if_neg (by rintro ⟨_, q⟩; exact h2 q), show (text.getD pos 0 == 10) = false from beq_eq_false_iff_ne.mpr h2]; rfl
theorem s2_lit24 : ∃ seen', M.step (st2 text s 24 pos handed first frames weight none seen) =
    if pos < text.size ∧ text.getD pos 0 = 13 then st2 text s 26 (pos + 1) handed first frames weight none seen' else st2 text s 24 pos handed first frames weight (some false) seen' := by
  refine ⟨seen.add 16, ?_⟩
  show (if pos ≥ text.size then _ else match (Except.ok (text.getD pos 0 == 13, _) : Except String (Bool × Seen)) with | .error why => _ | .ok (false, seen) => _ | .ok (true, seen) => _) = _
  by_cases h : pos ≥ text.size
  · rw [if_pos h, if_neg (by lia)]; rfl
  · rw [if_neg h]
    by_cases h2 : text.getD pos 0 = 13
    · rw [if_pos ⟨by lia, h2⟩, show (text.getD pos 0 == 13) = true from beq_iff_eq.mpr h2]; rfl
    · rw [if_neg (by rintro ⟨_, q⟩; exact h2 q), show (text.getD pos 0 == 13) = false from beq_eq_false_iff_ne.mpr h2]; rfl
theorem s2_lit29 : ∃ seen', M.step (st2 text s 29 pos handed first frames weight none seen) =
    if pos < text.size ∧ text.getD pos 0 = 10 then st2 text s 31 (pos + 1) handed first frames weight none seen' else st2 text s 29 pos handed first frames weight (some false) seen' := by
  refine ⟨seen.add 16, ?_⟩
  show (if pos ≥ text.size then _ else match (Except.ok (text.getD pos 0 == 10, _) : Except String (Bool × Seen)) with | .error why => _ | .ok (false, seen) => _ | .ok (true, seen) => _) = _
  by_cases h : pos ≥ text.size
  · rw [if_pos h, if_neg (by lia)]; rfl
  · rw [if_neg h]
    by_cases h2 : text.getD pos 0 = 10
    · rw [if_pos ⟨by lia, h2⟩, show (text.getD pos 0 == 10) = true from beq_iff_eq.mpr h2]; rfl
    · rw [if_neg (by rintro ⟨_, q⟩; exact h2 q), show (text.getD pos 0 == 10) = false from beq_eq_false_iff_ne.mpr h2]; rfl
theorem s2_jump16 : ∃ seen', M.step (st2 text s 16 pos handed first frames weight none seen) = st2 text s 35 pos handed first frames weight none seen' := ⟨_, rfl⟩
theorem s2_jump21 : ∃ seen', M.step (st2 text s 21 pos handed first frames weight none seen) = st2 text s 35 pos handed first frames weight none seen' := ⟨_, rfl⟩
theorem s2_jump32 : ∃ seen', M.step (st2 text s 32 pos handed first frames weight none seen) = st2 text s 35 pos handed first frames weight none seen' := ⟨_, rfl⟩
theorem s2_ok : ∃ seen', M.step (st2 text s 35 pos handed first frames weight none seen) = st2 text s 35 pos pos first frames weight (some true) seen' := by
  refine ⟨seen.add 1, ?_⟩
  show (if (first && ((false && _) || (false && (pos == s)))) = true then _ else _) = _
  simp only [Bool.false_and, Bool.and_false, Bool.or_false, Bool.false_eq_true, if_false]
  rfl
theorem s2_branch : ∃ seen', M.step (st2 text s 10 s s first [fr2 s first] 1 none seen) = st2 text s 12 s s first [fb2 11 s first, fr2 s first] 2 none seen' := ⟨_, rfl⟩
theorem s2_alt2 (pc handed : Nat) : M.step (st2 text s pc pos handed first [fb2 11 s first, fr2 s first] 2 (some false) seen) = st2 text s 19 s s first [fb2 18 s first, fr2 s first] 2 none seen := rfl
theorem s2_alt3 (pc handed : Nat) : M.step (st2 text s pc pos handed first [fb2 18 s first, fr2 s first] 2 (some false) seen) = st2 text s 24 s s first [fb2 23 s first, fr2 s first] 2 none seen := rfl
theorem s2_look : ∃ seen', M.step (st2 text s 26 (s + 1) s first [fb2 23 s first, fr2 s first] 2 none seen) = st2 text s 29 (s + 1) (s + 1) false [fl2 (s + 1) first, fb2 23 s first, fr2 s first] 3 none seen' := ⟨_, rfl⟩
theorem s2_not (pc handed : Nat) : M.step (st2 text s pc pos handed false [fl2 (s + 1) first, fb2 23 s first, fr2 s first] 3 (some false) seen) = st2 text s 32 (s + 1) handed first [fb2 23 s first, fr2 s first] 2 none seen := rfl
theorem s2_yes (alt pc handed : Nat) : M.step (M.step (M.step (st2 text s pc pos handed first [fb2 alt s first, fr2 s first] 2 (some true) seen))) = { st2 text s 10 s handed first [] 0 (some true) seen with outcome := some .matched } := rfl
/-- from a sign of the first set on -/
theorem try2 (hs : s < text.size) (hc : text.getD s 0 = 10 ∨ text.getD s 0 = 13) : Ends (st2 text s 10 s s first [fr2 s first] 1 none seen) 20
    (Found s (if text.getD s 0 = 13 ∧ s + 1 < text.size ∧ text.getD (s + 1) 0 = 10 then s + 2 else s + 1)) := by
  have fin : ∀ (alt e : Nat) (w : Seen) (hh : Nat), Ends (st2 text s 35 e hh first [fb2 alt s first, fr2 s first] 2 none w) 4 (Found s e) := fun alt e w hh => by
    obtain ⟨w2, h⟩ := s2_ok text s e hh 2 first [fb2 alt s first, fr2 s first] w
    refine Ends.step ?_
    rw [h]
    refine Ends.step (Ends.step (Ends.step ?_))
    rw [s2_yes]
    exact Ends.now rfl ⟨rfl, rfl, rfl⟩
  obtain ⟨w0, h0⟩ := s2_branch text s first seen
  refine Ends.mono (k := 18 + 1) (Ends.step ?_) (by lia) fun _ h => h
  rw [h0]
  obtain ⟨w1, h1⟩ := s2_lit12 text s s s 2 first [fb2 11 s first, fr2 s first] w0
  by_cases c13 : text.getD s 0 = 13
  · rw [if_pos ⟨hs, c13⟩] at h1
    obtain ⟨w2, h2⟩ := s2_lit14 text s (s + 1) s 2 first [fb2 11 s first, fr2 s first] w1
    by_cases c10 : s + 1 < text.size ∧ text.getD (s + 1) 0 = 10
    · rw [if_pos c10] at h2
      rw [if_pos ⟨c13, c10⟩]
      obtain ⟨w3, h3⟩ := s2_jump16 text s (s + 1 + 1) s 2 first [fb2 11 s first, fr2 s first] w2
      refine Ends.mono (k := 4 + 1 + 1 + 1) (Ends.step ?_) (by lia) fun _ h => h
      rw [h1]
      refine Ends.step ?_
      rw [h2]
      refine Ends.step ?_
      rw [h3]
      exact fin 11 (s + 2) w3 s
    · rw [if_neg c10] at h2
      rw [if_neg (by rintro ⟨_, q⟩; exact c10 q)]
      obtain ⟨w3, h3⟩ := s2_lit19 text s s s 2 first [fb2 18 s first, fr2 s first] w2
      rw [if_neg (by rintro ⟨_, q⟩; rw [c13] at q; cases q)] at h3
      obtain ⟨w4, h4⟩ := s2_lit24 text s s s 2 first [fb2 23 s first, fr2 s first] w3
      rw [if_pos ⟨hs, c13⟩] at h4
      obtain ⟨w5, h5⟩ := s2_look text s first w4
      obtain ⟨w6, h6⟩ := s2_lit29 text s (s + 1) (s + 1) 3 false [fl2 (s + 1) first, fb2 23 s first, fr2 s first] w5
      rw [if_neg c10] at h6
      obtain ⟨w7, h7⟩ := s2_jump32 text s (s + 1) (s + 1) 2 first [fb2 23 s first, fr2 s first] w6
      refine Ends.mono (k := 4 + 1 + 1 + 1 + 1 + 1 + 1 + 1 + 1 + 1 + 1) (Ends.step ?_) (by lia) fun _ h => h
      rw [h1]
      refine Ends.step ?_
      rw [h2]
      refine Ends.step ?_
      rw [s2_alt2]
      refine Ends.step ?_
      rw [h3]
      refine Ends.step ?_
      rw [s2_alt3]
      refine Ends.step ?_
      rw [h4]
      refine Ends.step ?_
      rw [h5]
      refine Ends.step ?_
      rw [h6]
      refine Ends.step ?_
      rw [s2_not]
      refine Ends.step ?_
      rw [h7]
      exact fin 23 (s + 1) w7 (s + 1)
  · rw [if_neg (by rintro ⟨_, q⟩; exact c13 q)] at h1
    have c10 : text.getD s 0 = 10 := hc.elim id fun h => absurd h c13
    rw [if_neg (by rintro ⟨q, _⟩; exact c13 q)]
    obtain ⟨w3, h3⟩ := s2_lit19 text s s s 2 first [fb2 18 s first, fr2 s first] w1
    rw [if_pos ⟨hs, c10⟩] at h3
    obtain ⟨w4, h4⟩ := s2_jump21 text s (s + 1) s 2 first [fb2 18 s first, fr2 s first] w3
    refine Ends.mono (k := 4 + 1 + 1 + 1 + 1) (Ends.step ?_) (by lia) fun _ h => h
    rw [h1]
    refine Ends.step ?_
    rw [s2_alt2]
    refine Ends.step ?_
    rw [h3]
    refine Ends.step ?_
    rw [h4]
    exact fin 18 (s + 1) w4 s
noncomputable def findEnd (text : Array Nat) : Nat → Nat → Option Nat
  | 0, s => none
  | f + 1, s => if text.getD s 0 = 10 ∨ text.getD s 0 = 13 then some s else findEnd text f (s + 1)
theorem set2 (c : Nat) (w : Seen) : ∃ w', inSet code2 c code2.size 5 true w = .ok (decide (c = 10 ∨ c = 13), w') := by
  by_cases h1 : c = 10
  · subst h1; exact ⟨_, rfl⟩
  · by_cases h2 : c = 13
    · subst h2; exact ⟨_, rfl⟩
    · refine ⟨((w.add 16).add 16).add 0, ?_⟩
      show (if (c == 10) = true then _ else if (c == 13) = true then _ else _) = _
      rw [if_neg (by simpa using h1), if_neg (by simpa using h2), decide_eq_false (by lia)]
      rfl
theorem adm2 (m : M) (hcode : m.code = code2) (hlim : m.lim = m.text.size) : ∀ (f s : Nat) (w : Seen), s + f = m.text.size + 1 → ∃ w', M.admitted m f s w = .ok (findEnd m.text (m.text.size - s) s, w')
  | 0, s, w, hs => ⟨w, by rw [show m.text.size - s = 0 by lia]; rfl⟩
  | f + 1, s, w, hs => by
    unfold M.admitted
    rw [hlim]
    by_cases h : s ≥ m.text.size
    · refine ⟨w, ?_⟩
      rw [if_pos h, show m.text.size - s = 0 by lia]
      rfl
    · rw [if_neg h, hcode]
      obtain ⟨w1, h1⟩ := set2 (m.text.getD s 0) w
      rw [h1, show m.text.size - s = (m.text.size - (s + 1)) + 1 by lia]
      unfold findEnd
      by_cases hc : m.text.getD s 0 = 10 ∨ m.text.getD s 0 = 13
      · rw [if_pos hc, decide_eq_true hc]
        exact ⟨w1, rfl⟩
      · rw [if_neg hc, decide_eq_false hc]
        exact adm2 m hcode hlim f (s + 1) w1 (by lia)
theorem findEnd_some {text : Array Nat} : ∀ {f s j : Nat}, findEnd text f s = some j → s + f = text.size → j < text.size ∧ s ≤ j ∧ (text.getD j 0 = 10 ∨ text.getD j 0 = 13) := by
  intro f
  induction f with
  | zero =>
    intro s j h _
    cases h
  | succ f ih =>
    intro s j h hs
    unfold findEnd at h
    by_cases hc : text.getD s 0 = 10 ∨ text.getD s 0 = 13
    · rw [if_pos hc] at h; cases h; exact ⟨by lia, Nat.le_refl _, hc⟩
    · rw [if_neg hc] at h
      obtain ⟨a, b, c⟩ := ih h (by lia)
      exact ⟨a, by lia, c⟩
end
theorem forSearch2 (text : Array Nat) (p : Nat) (hp : p ≤ text.size) (must : Bool) : Ends (forSearch code2 text 0 p text.size must) 21 fun m => match findEnd text (text.size - p) p with
    | some j => Found j (if text.getD j 0 = 13 ∧ j + 1 < text.size ∧ text.getD (j + 1) 0 = 10 then j + 2 else j + 1) m | none => Lost m := by
  let m0 : M := { code := code2, text, lim := text.size, start := p, lastStart := text.size, mustAdvance := must, pc := 10, pos := p, handed := p, marks := #[], seen := ({} : Seen).add 14 }
  by_cases h : text.size - p < 1
  · have e : forSearch code2 text 0 p text.size must = { m0 with lastStart := 0, answer := some false } := by
      show (if (decide (p > text.size) || decide (text.size - p < 1)) = true then _ else _) = _
      rw [if_pos (by rw [decide_eq_true h, Bool.or_true])]; rfl
    rw [e, show text.size - p = 0 by lia]
    exact ⟨1, by lia, rfl, rfl⟩
  · have e : forSearch code2 text 0 p text.size must = M.attemptFrom m0 p true := by
      show (if (decide (p > text.size) || decide (text.size - p < 1)) = true then _ else _) = _
      rw [if_neg (by rw [decide_eq_false (show ¬ p > text.size by lia), decide_eq_false h]; decide)]; rfl
    rw [e]
    obtain ⟨w, hw⟩ := adm2 m0 rfl rfl (text.size + 1 - p) p (({} : Seen).add 14) (by show p + _ = text.size + 1; lia)
    have e2 : M.attemptFrom m0 p true = match M.admitted m0 (text.size + 1 - p) p (({} : Seen).add 14) with
      | .ok (some s, seen) => M.attemptAt { m0 with mustAdvance := false, seen } s true
      | .ok (none, seen) => M.say { m0 with seen } false
      | .error why => M.stick m0 why := rfl
    rw [e2, hw]
    cases hf : findEnd text (text.size - p) p with
    | none =>
      exact ⟨1, by lia, rfl, rfl⟩
    | some j =>
      obtain ⟨a, b, c⟩ := findEnd_some hf (by lia)
      exact (try2 text j true w a c).mono (by lia) fun _ h => h
end
section
theorem ltS {P : Nat → Prop} {n : Nat} (h : ∀ i, i < n → P i) (k : P n) (i : Nat) (hi : i < n + 1) : P i := (Nat.lt_succ_iff_lt_or_eq.mp hi).elim (h i) fun e => e ▸ k
theorem lt3 {P : Nat → Prop} (a : P 0) (b : P 1) (c : P 2) : ∀ i, i < 3 → P i := ltS (ltS (ltS (fun i h => absurd h (Nat.not_lt_zero i)) a) b) c
theorem lt4 {P : Nat → Prop} (a : P 0) (b : P 1) (c : P 2) (d : P 3) : ∀ i, i < 4 → P i := ltS (lt3 a b c) d
theorem lt5 {P : Nat → Prop} (a : P 0) (b : P 1) (c : P 2) (d : P 3) (e : P 4) : ∀ i, i < 5 → P i := ltS (lt4 a b c d) e
noncomputable def msort (l : List Nat) : List Nat := l.mergeSort (fun a b => decide (a ≤ b))
theorem msort_perm (l : List Nat) : (msort l).Perm l := List.mergeSort_perm ..
theorem msort_sorted (l : List Nat) : (msort l).Pairwise (· ≤ ·) := by
  have := List.pairwise_mergeSort (le := fun a b : Nat => decide (a ≤ b)) (fun a b c h1 h2 => by simp at *; lia) (fun a b => by simp; lia) l
  exact this.imp fun h => of_decide_eq_true h
theorem msort_unique {l ys : List Nat} (h : ys.Perm l) (hs : ys.Pairwise (· ≤ ·)) : ys = msort l :=
  List.Perm.eq_of_pairwise (le := (· ≤ ·)) (fun a b _ _ h1 h2 => Nat.le_antisymm h1 h2) hs (msort_sorted l) (h.trans (msort_perm l).symm)
theorem msort_eq {a b : List Nat} (h : a.Perm b) : msort a = msort b := msort_unique ((msort_perm a).trans h) (msort_sorted a)
/-! lists in the order of a dictionary -/
noncomputable def lexlt : List Nat → List Nat → Bool
  | [], [] => false
  | [], _ :: _ => true
  | _ :: _, [] => false
  | a :: x, b :: y => if a = b then lexlt x y else decide (a < b)
theorem lexlt_irrefl : ∀ x, lexlt x x = false
  | [] => rfl
  | a :: x => by unfold lexlt; rw [if_pos rfl]; exact lexlt_irrefl x
theorem lexlt_total : ∀ x y, lexlt x y = false → lexlt y x = false → x = y
  | [], [], _, _ => rfl
  | [], _ :: _, h, _ => by unfold lexlt at h; cases h
  | _ :: _, [], _, h => by unfold lexlt at h; cases h
  | a :: x, b :: y, h, k => by
    unfold lexlt at h k
    by_cases e : a = b
    · subst e
      rw [if_pos rfl] at h k
      rw [lexlt_total x y h k]
    · rw [if_neg e] at h; rw [if_neg (Ne.symm e)] at k
      simp at h k; lia
theorem lexlt_trans : ∀ x y z, lexlt y x = false → lexlt z y = false → lexlt z x = false
  | [], y, [], _, _ => by unfold lexlt; rfl
  | [], y, c :: z, _, _ => by unfold lexlt; rfl
  | a :: x, [], z, h, k => by unfold lexlt at h; cases h
  | a :: x, b :: y, [], h, k => by unfold lexlt at k; cases k
  | a :: x, b :: y, c :: z, h, k => by
    unfold lexlt at h k ⊢
    by_cases e1 : b = a
    · by_cases e2 : c = b
      · subst e1 e2
        rw [if_pos rfl] at h k ⊢
        exact lexlt_trans x y z h k
      · subst e1
        rw [if_neg e2] at k ⊢; exact k
    · rw [if_neg e1] at h
      by_cases e2 : c = b
      · subst e2
        rw [if_neg e1]; exact h
      · rw [if_neg e2] at k
        simp at h k
        rw [if_neg (by lia)]
        simp; lia
noncomputable abbrev lexle (x y : List Nat) : Bool := !lexlt y x
noncomputable def lsort (l : List (List Nat)) : List (List Nat) := l.mergeSort lexle
theorem lsort_perm (l : List (List Nat)) : (lsort l).Perm l := List.mergeSort_perm ..
theorem lexlt_asymm (x y : List Nat) (h : lexlt x y = true) : lexlt y x = false := by
  cases k : lexlt y x with
  | false => rfl
  | true =>
    exfalso
    cases h2 : lexlt x x with
    | true => rw [lexlt_irrefl] at h2; cases h2
    | false =>
      by_cases e : lexlt y y = false
      · -- go by the heads
        clear e h2
        induction x generalizing y with
        | nil => cases y <;> (unfold lexlt at k; cases k)
        | cons a x ih =>
          cases y with
          | nil => unfold lexlt at h; cases h
          | cons b y =>
            unfold lexlt at h k
            by_cases e : a = b
            · subst e; rw [if_pos rfl] at h k; exact ih y h k
            · rw [if_neg e] at h; rw [if_neg (Ne.symm e)] at k; simp at h k; lia
      · rw [lexlt_irrefl] at e; exact e rfl
theorem lsort_sorted (l : List (List Nat)) : (lsort l).Pairwise (fun a b => lexlt b a = false) := by
  have := List.pairwise_mergeSort (le := lexle) (fun a b c h1 h2 => by simp [lexle] at *; exact lexlt_trans _ _ _ h1 h2) (fun a b => by
    cases h : lexlt b a with
    | false => simp [lexle, h]
    | true => simp [lexle, h, lexlt_asymm _ _ h]) l
  exact this.imp fun h => by simpa [lexle] using h
theorem lsort_unique {l ys : List (List Nat)} (h : ys.Perm l) (hs : ys.Pairwise (fun a b => lexlt b a = false)) : ys = lsort l :=
  List.Perm.eq_of_pairwise (le := fun a b => lexlt b a = false) (fun a b _ _ h1 h2 => lexlt_total _ _ h2 h1) hs (lsort_sorted l) (h.trans (lsort_perm l).symm)
theorem lsort_eq {a b : List (List Nat)} (h : a.Perm b) : lsort a = lsort b := lsort_unique ((lsort_perm a).trans h) (lsort_sorted a)
/-! the walkers, in plain numbers -/
structure WS where
  used : List Nat
  rings : List (List Nat)
  way : List Nat
  site : Nat
noncomputable def bump (u : List Nat) (ring : List Nat) : List Nat := ring.foldl (fun u s => u.set s (u.getD s 0 + 1)) u
noncomputable def lenT (tg : List (List Nat)) (s : Nat) : Nat := (tg.getD s []).length
noncomputable def nextSite (tg : List (List Nat)) (u : List Nat) (s : Nat) : Nat := if u.getD s 0 < lenT tg s then (tg.getD s []).getD (u.getD s 0) 0 else 5
noncomputable def ringRow (u ring : List Nat) : List Nat := msort (ring.map fun one => 4 * one + u.getD one 0 + 1)
noncomputable def popW (st : WS) : WS :=
  if st.site ∈ st.way then
    { used := bump st.used (st.way.drop (st.way.idxOf st.site)), rings := st.rings ++ [ringRow st.used (st.way.drop (st.way.idxOf st.site))], way := st.way.take (st.way.idxOf st.site), site := st.site }
  else st
noncomputable def stepW (tg : List (List Nat)) (st : WS) : WS := { used := (popW st).used, rings := (popW st).rings, way := (popW st).way ++ [st.site], site := nextSite tg (popW st).used st.site }
noncomputable def loopW (tg : List (List Nat)) (settled : List Nat) : Nat → WS → WS
  | 0, st => st
  | k + 1, st => if st.site ∈ settled then st else loopW tg settled k (stepW tg st)
noncomputable def pot (tg : List (List Nat)) (u : List Nat) : Nat := ((List.range 5).map fun s => lenT tg s - u.getD s 0).sum
structure TgOk (tg : List (List Nat)) : Prop where
  len : tg.length = 5
  in5 : ∀ t ∈ tg, ∀ x ∈ t, x < 5
  few : ∀ t ∈ tg, t.length ≤ 3
structure UOk (tg : List (List Nat)) (u : List Nat) : Prop where
  len : u.length = 5
  le : ∀ s, s < 5 → u.getD s 0 ≤ lenT tg s
structure WInv (tg : List (List Nat)) (settled : List Nat) (st : WS) : Prop where
  u : UOk tg st.used
  nd : st.way.Nodup
  lt : ∀ x ∈ st.way, x < 5
  off : ∀ x ∈ st.way, x ∉ settled
  on : st.site ∉ settled → ∀ x ∈ st.way, st.used.getD x 0 < lenT tg x
  site : st.site ≤ 5
  home : 5 ∈ settled
  few : st.rings.length + pot tg st.used ≤ 15
theorem bump_get : ∀ (ring u : List Nat) (x : Nat), ring.Nodup → (∀ y ∈ ring, y < u.length) → (bump u ring).getD x 0 = u.getD x 0 + if x ∈ ring then 1 else 0
  | [], u, x, _, _ => by simp [bump]
  | y :: r, u, x, hd, hl => by
    have hy := hl y (.head _)
    obtain ⟨h1, h2⟩ := List.nodup_cons.mp hd
    show (bump (u.set y (u.getD y 0 + 1)) r).getD x 0 = _
    rw [bump_get r _ x h2 (fun z hz => by rw [List.length_set]; exact hl z (.tail _ hz))]
    by_cases e : x = y
    · subst e
      simp [List.getD_eq_getElem?_getD, List.getElem?_set, hy, h1]
    · have e' : ¬ (y = x) := fun h => e h.symm
      simp [List.getD_eq_getElem?_getD, List.getElem?_set, e', e]
theorem bump_len : ∀ (ring u : List Nat), (bump u ring).length = u.length
  | [], u => rfl
  | y :: r, u => by
    show (bump (u.set y (u.getD y 0 + 1)) r).length = _
    rw [bump_len r, List.length_set]
theorem sum_le_sum {f g : Nat → Nat} : ∀ (l : List Nat), (∀ x ∈ l, f x ≤ g x) → (l.map f).sum ≤ (l.map g).sum
  | [], _ => Nat.le_refl _
  | x :: r, h => by simp only [List.map_cons, List.sum_cons]; have := h x (.head _); have := sum_le_sum r fun y hy => h y (.tail _ hy); lia
theorem sum_lt_sum {f g : Nat → Nat} : ∀ (l : List Nat) (x : Nat), x ∈ l → f x < g x → (∀ x ∈ l, f x ≤ g x) → (l.map f).sum < (l.map g).sum
  | y :: r, x, hx, hlt, h => by
    simp only [List.map_cons, List.sum_cons]
    have h1 := h y (.head _)
    rcases List.mem_cons.mp hx with rfl | hx
    · have := sum_le_sum r fun y hy => h y (.tail _ hy); lia
    · have := sum_lt_sum r x hx hlt fun y hy => h y (.tail _ hy); lia
theorem nodup_len : ∀ (n : Nat) (w : List Nat), w.Nodup → (∀ x ∈ w, x < n) → w.length ≤ n
  | 0, [], _, _ => Nat.le_refl _
  | 0, x :: _, _, h => absurd (h x (.head _)) (Nat.not_lt_zero _)
  | n + 1, w, hd, h => by
    by_cases hn : n ∈ w
    · have := nodup_len n (w.erase n) (hd.erase n) fun x hx => by
        have := (hd.mem_erase_iff).mp hx
        have := h x this.2
        lia
      rw [List.length_erase_of_mem hn] at this
      lia
    · have := nodup_len n w hd fun x hx => by
        have h1 := h x hx
        have h2 : x ≠ n := fun e => hn (e ▸ hx)
        lia
      lia
theorem drop_idx {w : List Nat} {x : Nat} (h : x ∈ w) : w.drop (w.idxOf x) = x :: w.drop (w.idxOf x + 1) := by
  have hl := List.idxOf_lt_length_iff.mpr h
  rw [List.drop_eq_getElem_cons hl, List.getElem_idxOf hl]
theorem nextSite_le {tg : List (List Nat)} (T : TgOk tg) (u : List Nat) {s : Nat} (hs : s < 5) : nextSite tg u s ≤ 5 := by
  unfold nextSite
  split
  · rename_i h
    have h1 : tg.getD s [] ∈ tg := by
      rw [List.getD_eq_getElem?_getD, List.getElem?_eq_getElem (by rw [T.len]; exact hs)]; exact List.getElem_mem _
    have h2 : (tg.getD s []).getD (u.getD s 0) 0 ∈ tg.getD s [] := by
      rw [List.getD_eq_getElem?_getD (l := tg.getD s []), List.getElem?_eq_getElem h]; exact List.getElem_mem _
    exact Nat.le_of_lt (T.in5 _ h1 _ h2)
  · exact Nat.le_refl _
/-- what a turn's first half keeps -/
structure PInv (tg : List (List Nat)) (settled : List Nat) (st pt : WS) : Prop where
  u : UOk tg pt.used
  nd : (pt.way ++ [st.site]).Nodup
  lt : ∀ x ∈ pt.way, x < 5
  off : ∀ x ∈ pt.way, x ∉ settled
  on : ∀ x ∈ pt.way, pt.used.getD x 0 < lenT tg x
  few : pt.rings.length + pot tg pt.used ≤ 15
  less : 6 * pot tg pt.used + (5 - (pt.way ++ [st.site]).length) < 6 * pot tg st.used + (5 - st.way.length)
theorem popW_inv {tg : List (List Nat)} {settled : List Nat} {st : WS} (I : WInv tg settled st) (hs : st.site ∉ settled) : PInv tg settled st (popW st) := by
  have on := I.on hs
  have s5 : st.site < 5 := by
    have := I.site
    have : st.site ≠ 5 := fun e => hs (e ▸ I.home)
    lia
  have wl := nodup_len 5 _ I.nd I.lt
  unfold popW
  by_cases h : st.site ∈ st.way
  · rw [if_pos h]
    have hl := List.idxOf_lt_length_iff.mpr h
    have hdrop := drop_idx h
    generalize hj : st.way.idxOf st.site = j at hl hdrop ⊢
    have hnd := I.nd
    rw [← List.take_append_drop j st.way] at hnd
    obtain ⟨n1, n2, n3⟩ := List.nodup_append.mp hnd
    have rlt : ∀ y ∈ st.way.drop j, y < st.used.length := fun y hy => by rw [I.u.len]; exact I.lt y (List.mem_of_mem_drop hy)
    have bg := fun x => bump_get (st.way.drop j) st.used x n2 rlt
    have hsite : st.site ∈ st.way.drop j := by rw [hdrop]; exact .head _
    have hp : pot tg (bump st.used (st.way.drop j)) < pot tg st.used := by
      unfold pot
      refine sum_lt_sum _ st.site (List.mem_range.mpr s5) ?_ fun x _ => ?_
      · rw [bg, if_pos hsite]
        have := on _ h
        lia
      · rw [bg]; lia
    refine ⟨⟨by rw [bump_len]; exact I.u.len, fun s h5 => ?_⟩, ?_, fun x hx => I.lt x (List.mem_of_mem_take hx), fun x hx => I.off x (List.mem_of_mem_take hx), fun x hx => ?_, ?_, ?_⟩
    · rw [bg]
      split
      · rename_i hm
        have := on s (List.mem_of_mem_drop hm); lia
      · have := I.u.le s h5; lia
    · rw [List.nodup_append]
      exact ⟨n1, by simp, fun a ha b hb => by rw [List.mem_singleton] at hb; subst hb; exact n3 a ha _ hsite⟩
    · have hx' : x ∉ st.way.drop j := fun hd => n3 x hx x hd rfl
      rw [bg, if_neg hx']
      exact on x (List.mem_of_mem_take hx)
    · have := I.few
      simp only [List.length_append, List.length_singleton]; lia
    · simp only [List.length_append, List.length_singleton, List.length_take]; lia
  · rw [if_neg h]
    refine ⟨I.u, ?_, I.lt, I.off, on, I.few, ?_⟩
    · rw [List.nodup_append]
      exact ⟨I.nd, by simp, fun a ha b hb e => by rw [List.mem_singleton] at hb; subst hb; exact h (e ▸ ha)⟩
    · have : (st.way ++ [st.site]).length ≤ 5 := by
        refine nodup_len 5 _ ?_ fun x hx => ?_
        · rw [List.nodup_append]
          exact ⟨I.nd, by simp, fun a ha b hb e => by rw [List.mem_singleton] at hb; subst hb; exact h (e ▸ ha)⟩
        · rcases List.mem_append.mp hx with hx | hx
          · exact I.lt x hx
          · rw [List.mem_singleton] at hx; lia
      rw [List.length_append, List.length_singleton] at this ⊢
      lia
noncomputable def measW (tg : List (List Nat)) (st : WS) : Nat := 6 * pot tg st.used + (5 - st.way.length)
theorem stepW_inv {tg : List (List Nat)} (T : TgOk tg) {settled : List Nat} {st : WS} (I : WInv tg settled st) (hs : st.site ∉ settled) : WInv tg settled (stepW tg st) ∧ measW tg (stepW tg st) < measW tg st := by
  have p := popW_inv I hs
  have s5 : st.site < 5 := by
    have := I.site
    have : st.site ≠ 5 := fun e => hs (e ▸ I.home)
    lia
  refine ⟨⟨p.u, p.nd, fun x hx => ?_, fun x hx => ?_, fun hn x hx => ?_, nextSite_le T _ s5, I.home, p.few⟩, p.less⟩
  · rcases List.mem_append.mp hx with hx | hx
    · exact p.lt x hx
    · rw [List.mem_singleton] at hx; lia
  · rcases List.mem_append.mp hx with hx | hx
    · exact p.off x hx
    · rw [List.mem_singleton] at hx; rw [hx]; exact hs
  · rcases List.mem_append.mp hx with hx | hx
    · exact p.on x hx
    · rw [List.mem_singleton] at hx; subst hx
      have hn' : nextSite tg (popW st).used st.site ∉ settled := hn
      show (popW st).used.getD st.site 0 < _
      unfold nextSite at hn'
      split at hn'
      · assumption
      · exact absurd I.home hn'
/-- five walkers -/
structure OS where
  used : List Nat
  rings : List (List Nat)
  settled : List Nat
noncomputable def walkOne (tg : List (List Nat)) (start turn : Nat) (o : OS) : OS :=
  let st := loopW tg o.settled 100 ⟨o.used, o.rings, [], (start + turn) % 5⟩
  ⟨st.used, st.rings, o.settled ++ st.way⟩
noncomputable def walkers (tg : List (List Nat)) (start : Nat) : Nat → OS
  | 0 => ⟨[0, 0, 0, 0, 0], [], [5]⟩
  | k + 1 => walkOne tg start k (walkers tg start k)
theorem loopW_inv {tg : List (List Nat)} (T : TgOk tg) {settled : List Nat} : ∀ (k : Nat) (st : WS), WInv tg settled st → measW tg st ≤ k → WInv tg settled (loopW tg settled k st) ∧ (loopW tg settled k st).site ∈ settled
  | 0, st, I, h => by
    refine ⟨I, ?_⟩
    by_cases hs : st.site ∈ settled
    · exact hs
    · have := (stepW_inv T I hs).2; lia
  | k + 1, st, I, h => by
    unfold loopW
    by_cases hs : st.site ∈ settled
    · rw [if_pos hs]; exact ⟨I, hs⟩
    · rw [if_neg hs]
      have := stepW_inv T I hs
      exact loopW_inv T k _ this.1 (by lia)
structure OInv (tg : List (List Nat)) (k : Nat) (o : OS) : Prop where
  u : UOk tg o.used
  home : 5 ∈ o.settled
  few : o.rings.length + pot tg o.used ≤ 15
  sl : o.settled.length ≤ 1 + 5 * k
theorem OInv.start {tg : List (List Nat)} {k : Nat} {o : OS} (I : OInv tg k o) (s : Nat) : WInv tg o.settled ⟨o.used, o.rings, [], s % 5⟩ ∧ measW tg ⟨o.used, o.rings, [], s % 5⟩ ≤ 100 := by
  refine ⟨⟨I.u, by simp, by simp, by simp, by simp, ?_, I.home, I.few⟩, ?_⟩
  · show s % 5 ≤ 5; lia
  · have := I.few
    unfold measW; simp only [List.length_nil]; lia
theorem pot_start {tg : List (List Nat)} (T : TgOk tg) : pot tg [0, 0, 0, 0, 0] ≤ 15 := by
  have h : ∀ s, s < 5 → lenT tg s ≤ 3 := fun s hs => by
    unfold lenT
    refine T.few _ ?_
    rw [List.getD_eq_getElem?_getD, List.getElem?_eq_getElem (by rw [T.len]; exact hs)]; exact List.getElem_mem _
  unfold pot
  have := sum_le_sum (f := fun s => lenT tg s - [0, 0, 0, 0, 0].getD s 0) (g := fun _ => 3) (List.range 5) fun x hx => by
    have := h x (List.mem_range.mp hx); lia
  exact Nat.le_trans this (by decide)
theorem OInv.zero {tg : List (List Nat)} (T : TgOk tg) : OInv tg 0 ⟨[0, 0, 0, 0, 0], [], [5]⟩ := by
  refine ⟨⟨rfl, fun s hs => ?_⟩, by simp, ?_, by simp⟩
  · have : [0, 0, 0, 0, 0].getD s 0 = 0 := by
      exact lt5 (P := fun s => [0, 0, 0, 0, 0].getD s 0 = 0) rfl rfl rfl rfl rfl s hs
    rw [this]; lia
  · have := pot_start T
    simpa using this
theorem OInv.next {tg : List (List Nat)} (T : TgOk tg) {k : Nat} {o : OS} (I : OInv tg k o) (start turn : Nat) : OInv tg (k + 1) (walkOne tg start turn o) := by
  have st := I.start (start + turn)
  obtain ⟨w, _⟩ := loopW_inv T 100 _ st.1 st.2
  refine ⟨w.u, List.mem_append_left _ I.home, w.few, ?_⟩
  have := nodup_len 5 _ w.nd w.lt
  have := I.sl
  unfold walkOne
  simp only [List.length_append]; lia
theorem walkers_inv {tg : List (List Nat)} (T : TgOk tg) (start : Nat) : ∀ k, OInv tg k (walkers tg start k)
  | 0 => OInv.zero T
  | k + 1 => (walkers_inv T start k).next T start k
noncomputable abbrev lastN (l : List Nat) : Nat := l.getLast?.getD 0
/-- the way of a site, followed until it ends or meets itself -/
noncomputable def follow (leads : List Nat) : Nat → List Nat → List Nat
  | 0, w => w
  | k + 1, w => if leads.getD (lastN w) 0 ≠ 5 ∧ leads.getD (lastN w) 0 ∉ w then follow leads k (w ++ [leads.getD (lastN w) 0]) else w
noncomputable def ringOf (leads : List Nat) (first : Nat) : List Nat := follow leads 4 [first]
noncomputable def isRing (leads : List Nat) (first : Nat) : Bool := leads.getD (lastN (ringOf leads first)) 0 == first && (ringOf leads first).all (first ≤ ·)
noncomputable def ringsTo (leads : List Nat) (k : Nat) : List (List Nat) := ((List.range k).filter (isRing leads)).map (ringOf leads)
noncomputable abbrev rings (leads : List Nat) : List (List Nat) := ringsTo leads 5
theorem follow_stop {leads : List Nat} {w : List Nat} (h : ¬ (leads.getD (lastN w) 0 ≠ 5 ∧ leads.getD (lastN w) 0 ∉ w)) : ∀ k, follow leads k w = w
  | 0 => rfl
  | k + 1 => by unfold follow; rw [if_neg h]
structure WayOk (w : List Nat) : Prop where
  ne : w ≠ []
  nd : w.Nodup
  lt : ∀ x ∈ w, x < 5
theorem lastN_mem {w : List Nat} (h : w ≠ []) : lastN w ∈ w := by
  unfold lastN
  rw [List.getLast?_eq_some_getLast h]; exact List.getLast_mem h
theorem WayOk.last {w : List Nat} (h : WayOk w) : lastN w < 5 := h.lt _ (lastN_mem h.ne)
theorem ringsTo_yes {leads : List Nat} {i : Nat} (h : isRing leads i = true) : ringsTo leads (i + 1) = ringsTo leads i ++ [ringOf leads i] := by
  unfold ringsTo; rw [List.range_succ, List.filter_append, List.map_append]; simp [h]
theorem ringsTo_no {leads : List Nat} {i : Nat} (h : isRing leads i = false) : ringsTo leads (i + 1) = ringsTo leads i := by
  unfold ringsTo; rw [List.range_succ, List.filter_append, List.map_append]; simp [h]
theorem ringsTo_len (leads : List Nat) (i : Nat) : (ringsTo leads i).length ≤ i := by
  unfold ringsTo; rw [List.length_map]; exact Nat.le_trans (List.length_filter_le _ _) (by simp)
theorem follow_head (leads : List Nat) : ∀ (k : Nat) (w : List Nat) (x : Nat), x ∈ w → x ∈ follow leads k w
  | 0, _, _, h => h
  | k + 1, w, x, h => by
    unfold follow
    split
    · exact follow_head leads k _ x (List.mem_append_left _ h)
    · exact h
end
section
/-! the mail's plain words -/
/-- ends made alike; p: a return stands right ahead -/
noncomputable def crlf : Bool → List Nat → List Nat
  | _, [] => []
  | p, x :: r => if x = 13 then 13 :: 10 :: crlf true r else if x = 10 then (if p = true then crlf false r else 13 :: 10 :: crlf false r) else x :: crlf false r
/-- a dot more where a row begins with one -/
noncomputable def dotted : Bool → List Nat → List Nat
  | _, [] => []
  | b, x :: r => if b = true ∧ x = 46 then 46 :: 46 :: dotted false r else x :: dotted (x == 10) r
noncomputable def quoteT (l : List Nat) : List Nat := dotted true (crlf false l)
theorem crlf_len : ∀ (p : Bool) (l : List Nat), (crlf p l).length ≤ 2 * l.length
  | _, [] => Nat.le_refl _
  | p, x :: r => by
    have h1 := crlf_len true r
    have h2 := crlf_len false r
    unfold crlf
    repeat' split
    all_goals (simp only [List.length_cons]; lia)
theorem dotted_len : ∀ (p : Bool) (l : List Nat), (dotted p l).length ≤ 2 * l.length
  | _, [] => Nat.le_refl _
  | p, x :: r => by
    have h1 := dotted_len (x == 10) r
    have h2 := dotted_len false r
    unfold dotted
    split
    all_goals (simp only [List.length_cons]; lia)
theorem quote_len (l : List Nat) : (quoteT l).length ≤ 4 * l.length := by
  have h1 := dotted_len true (crlf false l)
  have h2 := crlf_len false l
  unfold quoteT; lia
noncomputable def numbersT : Nat → List Nat → List Nat
  | _, [] => []
  | v, b :: r => if b / 64 % 2 = 1 then numbersT (v * 64 + b % 64) r else (v * 64 + b % 64) :: numbersT 0 r
noncomputable def digitsT (a n : Nat) : List Nat := (List.range (((if a = 0 then 0 else a.log2 + 1) + n - 1) / n)).map fun i => a / 2 ^ (n * i) % 2 ^ n
noncomputable def valT (n : Nat) : List Nat → Nat
  | [] => 0
  | d :: r => d + 2 ^ n * valT n r
noncomputable def b1Codes : List Nat := [173, 847, 6150, 6155, 6156, 6157, 8203, 8204, 8205, 8288, 65279]
noncomputable def b1 (x : Nat) : Bool := b1Codes.contains x || (decide (65024 ≤ x) && decide (x < 65040))
noncomputable def hidCodes : List Int := [173, 847, 6150, 6155, 6156, 6157, 8203, 8204, 8205, 8288, 65279]
noncomputable def hidI (d : Int) : Int := if d.fmod 27 < 11 then hidCodes.getD (d.fmod 27).toNat 0 else 65013 + d.fmod 27
noncomputable def besCodes : List Int := [172, 174, 846, 848, 6149, 6151, 6154, 6158, 8202, 8206, 8287, 8289, 65023, 65040, 65278, 65280]
noncomputable def besI (d : Int) : Int := besCodes.getD (d.fmod 16).toNat 0
noncomputable def bookSigns (letters : List Nat) (targets : List Int) : List (List Nat) := targets.map fun t => [letters.getD t.toNat 0]
noncomputable def bookGap (targets : List Int) (heap : Int) : Nat := (((heap.fdiv (10 ^ 4)).fmod 10).fmod (targets.length + 1)).toNat
noncomputable def bookT (letters : List Nat) (targets : List Int) (heap site : Int) : List Nat :=
  ((bookSigns letters targets).take (bookGap targets heap) ++ [[(hidI (heap.fdiv (10 ^ 5) + site)).toNat]] ++ (bookSigns letters targets).drop (bookGap targets heap)).flatten
noncomputable def hidN (d : Nat) : Nat := (hidI d).toNat
noncomputable def besN (d : Nat) : Nat := (besI d).toNat
noncomputable def ends3 : List (List Nat) := [[10], [13], [13, 10]]
noncomputable def ends4 : List (List Nat) := [[], [10], [13], [13, 10]]
noncomputable def rowT (level bare letters : List Nat) (turn draw k : Nat) : List Nat :=
  (if (turn + k) % 5 ∈ bare then [] else [hidN (draw + turn + k)]) ++ (List.replicate (1 + level.getD ((turn + k) % 5) 0) 46 ++ [letters.getD ((turn + k) % 5) 0] ++ ends3.getD ((draw + turn + k) % 3) [])
noncomputable def rowsT (level bare letters : List Nat) (turn draw k : Nat) : List Nat := ((List.range k).map (rowT level bare letters turn draw)).flatten
noncomputable def postT (level bare letters : List Nat) (turn draw : Nat) : List Nat :=
  rowsT level bare letters turn draw 5 ++ ([13, 46, 10] ++ List.replicate (1 + turn) 46 ++ [besN (draw + turn)] ++ [46] ++ ends4.getD ((draw / 16 + turn) % 4) [])
noncomputable def levStep (marks : List Nat) (p : List Int × Nat) (x : Nat) : List Int × Nat :=
  if x = 46 then (p.1, p.2 + 1) else if x ∈ marks then (p.1.set (marks.idxOf x) ((p.2 : Int) - 1), 0) else p
noncomputable def levT (marks : List Nat) (l : List Nat) : List Int × Nat := l.foldl (levStep marks) ([0, 0, 0, 0, 0], 0)
end
section
open PySem PySem.W PySem.Spec PySem.Calls PyProof.Rows

/-- pure values -/
inductive V where
  | none | bool (b : Bool) | int (i : Int) | str (x : Str) | lst (xs : List V) | tup (xs : List V)
noncomputable abbrev lobj (vs : List Value) (n : Nat) : Obj := { cls := .type "list", data := .seq vs.toArray n }
noncomputable abbrev tobj (vs : List Value) (n : Nat) : Obj := { cls := .type "tuple", data := .seq vs.toArray n }
mutual
noncomputable def VR (P : Addr → Obj → Prop) : V → Value → Prop
  | .none, v => v = .none
  | .bool b, v => v = .bool b
  | .int i, v => ∃ t, v = .int i t
  | .str x, v => ∃ t, v = .str x t
  | .lst xs, v => ∃ a vs n, v = .ref a ∧ P a (lobj vs n) ∧ VRs P xs vs
  | .tup xs, v => ∃ a vs n, v = .ref a ∧ P a (tobj vs n) ∧ VRs P xs vs
noncomputable def VRs (P : Addr → Obj → Prop) : List V → List Value → Prop
  | [], vs => vs = []
  | x :: xs, vs => ∃ v r, vs = v :: r ∧ VR P x v ∧ VRs P xs r
end
mutual
theorem VR.mono {P P' : Addr → Obj → Prop} (h : ∀ a o, P a o → P' a o) : ∀ {x : V} {v : Value}, VR P x v → VR P' x v
  | .none, _, H => by unfold VR at H ⊢; exact H
  | .bool _, _, H => by unfold VR at H ⊢; exact H
  | .int _, _, H => by unfold VR at H ⊢; exact H
  | .str _, _, H => by unfold VR at H ⊢; exact H
  | .lst xs, _, H => by unfold VR at H ⊢; obtain ⟨a, vs, n, e, p, r⟩ := H; exact ⟨a, vs, n, e, h _ _ p, VRs.mono h r⟩
  | .tup xs, _, H => by unfold VR at H ⊢; obtain ⟨a, vs, n, e, p, r⟩ := H; exact ⟨a, vs, n, e, h _ _ p, VRs.mono h r⟩
theorem VRs.mono {P P' : Addr → Obj → Prop} (h : ∀ a o, P a o → P' a o) : ∀ {xs : List V} {vs : List Value}, VRs P xs vs → VRs P' xs vs
  | [], _, H => by unfold VRs at H ⊢; exact H
  | x :: xs, _, H => by unfold VRs at H ⊢; obtain ⟨v, r, e, a, b⟩ := H; exact ⟨v, r, e, VR.mono h a, VRs.mono h b⟩
end
theorem VRs.nil {P : Addr → Obj → Prop} : VRs P [] [] := by unfold VRs; rfl
theorem VRs.cons {P : Addr → Obj → Prop} {x : V} {v : Value} {xs : List V} {vs : List Value} (a : VR P x v) (b : VRs P xs vs) : VRs P (x :: xs) (v :: vs) := by unfold VRs; exact ⟨v, vs, rfl, a, b⟩
theorem VRs.len {P : Addr → Obj → Prop} : ∀ {xs : List V} {vs : List Value}, VRs P xs vs → vs.length = xs.length
  | [], _, H => by unfold VRs at H; subst H; rfl
  | x :: xs, _, H => by unfold VRs at H; obtain ⟨v, r, rfl, _, b⟩ := H; simp [VRs.len b]
theorem VRs.app {P : Addr → Obj → Prop} : ∀ {xs ys : List V} {vs us : List Value}, VRs P xs vs → VRs P ys us → VRs P (xs ++ ys) (vs ++ us)
  | [], _, _, _, H, G => by unfold VRs at H; subst H; exact G
  | x :: xs, _, _, _, H, G => by unfold VRs at H; obtain ⟨v, r, rfl, a, b⟩ := H; exact VRs.cons a (VRs.app b G)
theorem VRs.get {P : Addr → Obj → Prop} : ∀ {xs : List V} {vs : List Value} {i : Nat} {x : V}, VRs P xs vs → xs[i]? = some x → ∃ v, vs[i]? = some v ∧ VR P x v
  | [], _, _, _, _, h => by simp at h
  | y :: ys, _, 0, x, H, h => by unfold VRs at H; obtain ⟨v, r, rfl, a, b⟩ := H; simp at h; subst h; exact ⟨v, rfl, a⟩
  | y :: ys, _, i + 1, x, H, h => by unfold VRs at H; obtain ⟨v, r, rfl, a, b⟩ := H; simp at h; obtain ⟨u, hu, hx⟩ := VRs.get b h; exact ⟨u, by simpa using hu, hx⟩
theorem VRs.set {P : Addr → Obj → Prop} : ∀ {xs : List V} {vs : List Value} {i : Nat} {x : V} {v : Value}, VRs P xs vs → VR P x v → VRs P (xs.set i x) (vs.set i v)
  | [], _, _, _, _, H, _ => by unfold VRs at H; subst H; exact VRs.nil
  | y :: ys, _, 0, x, v, H, h => by unfold VRs at H; obtain ⟨u, r, rfl, a, b⟩ := H; exact VRs.cons h b
  | y :: ys, _, i + 1, x, v, H, h => by unfold VRs at H; obtain ⟨u, r, rfl, a, b⟩ := H; exact VRs.cons a (VRs.set b h)
theorem VRs.drop {P : Addr → Obj → Prop} : ∀ {xs : List V} {vs : List Value} (i : Nat), VRs P xs vs → VRs P (xs.drop i) (vs.drop i)
  | xs, vs, 0, H => H
  | [], _, i + 1, H => by unfold VRs at H; subst H; exact VRs.nil
  | y :: ys, _, i + 1, H => by unfold VRs at H; obtain ⟨v, r, rfl, a, b⟩ := H; exact VRs.drop i b
theorem VRs.take {P : Addr → Obj → Prop} : ∀ {xs : List V} {vs : List Value} (i : Nat), VRs P xs vs → VRs P (xs.take i) (vs.take i)
  | xs, vs, 0, H => VRs.nil
  | [], _, i + 1, H => by unfold VRs at H; subst H; exact VRs.nil
  | y :: ys, _, i + 1, H => by unfold VRs at H; obtain ⟨v, r, rfl, a, b⟩ := H; exact VRs.cons a (VRs.take i b)
theorem VRs.rev {P : Addr → Obj → Prop} : ∀ {xs : List V} {vs : List Value}, VRs P xs vs → VRs P xs.reverse vs.reverse
  | [], _, H => by unfold VRs at H; subst H; exact VRs.nil
  | x :: xs, _, H => by unfold VRs at H; obtain ⟨v, r, rfl, a, b⟩ := H; simpa using VRs.app (VRs.rev b) (VRs.cons a VRs.nil)
noncomputable abbrev ivs (xs : List Int) : List V := xs.map V.int
theorem VRs.ofInts {P : Addr → Obj → Prop} : ∀ {xs : List Int} {vs : List Value}, IntsAre vs xs → VRs P (ivs xs) vs
  | _, _, .nil => VRs.nil
  | _, _, .cons (n := n) (t := t) h => VRs.cons (by unfold VR; exact ⟨_, rfl⟩) (VRs.ofInts h)
theorem VRs.toInts {P : Addr → Obj → Prop} : ∀ {xs : List Int} {vs : List Value}, VRs P (ivs xs) vs → IntsAre vs xs
  | [], _, H => by unfold ivs VRs at H; simp at H; subst H; exact IntsAre.nil
  | x :: xs, _, H => by
    simp only [ivs, List.map_cons] at H; unfold VRs at H; obtain ⟨v, r, rfl, a, b⟩ := H; unfold VR at a; obtain ⟨t, rfl⟩ := a; exact IntsAre.cons _ _ (VRs.toInts b)

/-- what a name holds: a value, a list that the frame may change, a list that may be looked at -/
inductive LV where
  | frz (x : V) | own (b : Addr) (xs : List V) | brw (b : Addr) (xs : List V) | raw (v : Value)
noncomputable abbrev Sto := List (Str × LV)
noncomputable def sget (σ : Sto) (x : Str) : Option LV := σ.lookup x
noncomputable def sput : Sto → Str → LV → Sto
  | [], x, l => [(x, l)]
  | (y, k) :: r, x, l => if y = x then (x, l) :: r else (y, k) :: sput r x l
theorem sget_sput_same : ∀ (σ : Sto) (x : Str) (l : LV), sget (sput σ x l) x = some l
  | [], x, l => by simp [sput, sget]
  | (y, k) :: r, x, l => by
    unfold sput
    by_cases h : y = x
    · simp [h, sget]
    · rw [if_neg h]; unfold sget; rw [List.lookup_cons]
      have : (x == y) = false := by simp; exact fun e => h e.symm
      rw [this]; exact sget_sput_same r x l
theorem sget_sput_ne {x z : Str} (hz : z ≠ x) : ∀ (σ : Sto) (l : LV), sget (sput σ x l) z = sget σ z
  | [], l => by
    have : (z == x) = false := by simpa using hz
    simp [sput, sget, List.lookup, this]
  | (y, k) :: r, l => by
    unfold sput
    by_cases h : y = x
    · subst h
      have : (z == y) = false := by simpa using hz
      simp [sget, List.lookup_cons, this]
    · rw [if_neg h]; unfold sget; rw [List.lookup_cons, List.lookup_cons]
      cases z == y with
      | true => rfl
      | false => exact sget_sput_ne hz r l
noncomputable def Le (σ₁ σ₂ : Sto) : Prop := ∀ x l, sget σ₁ x = some l → sget σ₂ x = some l

/-- what a frame's names hold, and the heap that lies still behind it -/
structure Pin where
  m : Str → Option Value
  g : Heap
/-- a frame's fixed data -/
structure Cx where
  prog : Program
  w : World
  mean : ExcName → Option Value
  mg : Str → Option Value
  mb : Str → Option Value
  dp : Nat
  un : Nat
  gd : Option (List Code)
  cn : Str
  cs : Scope
  a : Addr
  ccd : Value
  cl : List (Str × Addr)
  outer : List Env
  A₀ : Around
  base : Heap
  h₀ : Heap
  L : Addr
  /-- where it is said, the frame's names stand still -/
  pin : Option Pin
  /-- no call marks the frames behind -/
  still : Bool
  /-- what is laid for good, and is not behind the frame -/
  keep : List (Addr × Obj)
noncomputable abbrev Cx.A (c : Cx) : Around := ktrTop c.dp c.un c.gd c.cn c.cs c.L c.a c.ccd c.cl c.outer
noncomputable abbrev Cx.env (c : Cx) : Env := envX c.cn c.cs c.L c.a c.ccd c.cl
noncomputable abbrev Cx.M (c : Cx) : Model := model c.prog c.w
noncomputable def PP (base : Heap) (z : List (Addr × Obj)) (a : Addr) (o : Obj) : Prop := base.get? a = some o ∨ (a, o) ∈ z
theorem PP.mono {base : Heap} {z z' : List (Addr × Obj)} (h : ∀ p ∈ z, p ∈ z') (a : Addr) (o : Obj) : PP base z a o → PP base z' a o := fun x => x.imp id (h _)
noncomputable abbrev looseG : List Str := looseW vq looseL ++ (recsOf vq).map (·.name) ++ (litsOf vq).map (·.1) ++ (clssOf vq (looseW vq looseL)).map (·.name)
structure Cx.Ok (c : Cx) (n : Nat) : Prop where
  kin : (K c.w.params).In c.base
  top : Top topProg looseG c.mean c.mg c.mb c.base
  code1 : CodeHd c.base (nat_lit 68) (nat_lit 64)
  code2 : CodeHd c.base (nat_lit 75) (nat_lit 71)
  fn : c.cs.kind = .function
  room : c.dp + n < recursionLimit
  units : c.un + 8 * n + 8 < cLine

noncomputable abbrev Cx.fs (c : Cx) : List Addr := c.outer.filterMap (·.frame)
/-- the heap behind the frame: the frames of it may have been marked -/
structure GOk (c : Cx) (g : Heap) : Prop where
  turn : KtsTurn c.fs c.h₀ g
  below : Below c.A₀ c.base c.outer g
  dicts : KtsDicts c.fs g
  same : c.still = true → g = c.h₀
structure EnvOk (c : Cx) (env : Env) (m : Pin) : Prop where
  gok : GOk c m.g
  kind : env.scope.kind = .function
  globals : env.globals = mainGlobals
  builtins : env.builtins = builtinsNs
  pin : ∀ m₀, c.pin = some m₀ → m = m₀
/-- the tables of the two defs that make a def of their own: empty, or with the code that the first run laid -/
noncomputable abbrev NT (p : Addr × Obj) : Prop := ∀ ps : Array Value, p.2 ≠ tabObj ps
noncomputable def TabIs (z own : List (Addr × Obj)) (P ln : Nat) (qual : Str) : Prop :=
  ∃ ps : Array Value, (P, tabObj ps) ∈ own ∧ (ps = #[] ∨ ∃ c' oc vs t, ps = #[rawInt ((ln : Nat) : Int), rawInt ((4 : Nat) : Int), .ref c'] ∧ (c', oc) ∈ z ∧ oc.data = .fields vs ∧ vs[1]? = some (.str qual t))
structure Tb (kp z own : List (Addr × Obj)) : Prop where
  kept : ∀ p ∈ kp, p ∈ z
  t1 : TabIs z own (nat_lit 64) 39 (.ofString "_int2digits.<locals>.inner")
  t2 : TabIs z own (nat_lit 71) 54 (.ofString "_digits2int.<locals>.inner")
noncomputable def Sep (A B : List (Addr × Obj)) : Prop := ∀ p ∈ A, ∀ q ∈ B, p.1 ≠ q.1
noncomputable def Src (c : Cx) (env : Env) (m : Pin) (all : List (Addr × Obj)) (x : Str) (v : Value) : Prop :=
  (env.kindOf x = some .local ∧ ((env.locals = c.L ∧ m.m x = some v) ∨ ∃ oC m₂, (env.locals, oC) ∈ all ∧ LCg.NsObj oC m₂ ∧ m₂ x = some v)) ∨
  ((env.kindOf x = some .cell ∨ env.kindOf x = some .free) ∧ ∃ cd o, env.cells.lookup x = some cd ∧ (cd, o) ∈ all ∧ o.data = .cell (some v))
noncomputable def VarOk (c : Cx) (env : Env) (m : Pin) (own z hid : List (Addr × Obj)) (x : Str) : LV → Prop
  | .frz V => ∃ v, Src c env m (own ++ (z ++ hid)) x v ∧ VR (PP c.base z) V v
  | .own b xs => Src c env m (own ++ (z ++ hid)) x (.ref b) ∧ ∃ vs n, (b, lobj vs n) ∈ own ∧ VRs (PP c.base z) xs vs
  | .brw b xs => Src c env m (own ++ (z ++ hid)) x (.ref b) ∧ ∃ vs n, (b, lobj vs n) ∈ z ++ hid ∧ VRs (PP c.base z) xs vs
  | .raw v => Src c env m (own ++ (z ++ hid)) x v
/-- the state that a store tells of -/
structure AtX (c : Cx) (hid z : List (Addr × Obj)) (env : Env) (σ : Sto) (s : Shared) (m : Pin) (own : List (Addr × Obj)) : Prop where
  x1 : Fr m.g c.L s.heap m.m
  x2 : News m.g c.L s.heap (own ++ (z ++ hid))
  x3 : Sep own (z ++ hid)
  x4 : Sep z hid
  x5 : EnvOk c env m
  x6 : ∀ x l, sget σ x = some l → VarOk c env m own z hid x l
  x7 : ∀ x y b xs ys, sget σ x = some (.own b xs) → sget σ y = some (.own b ys) → x = y
  x8 : ((env = c.env → (∀ x cd, c.cl.lookup x = some cd → ∃ o v₀, ((cd, o) ∈ own ∨ (cd, o) ∈ c.keep) ∧ o.data = .cell v₀) ∧ (∀ x y cd, c.cl.lookup x = some cd → c.cl.lookup y = some cd → x = y) ∧ ∀ y q us, sget σ y ≠ some (.brw q us)) ∧ Tb c.keep z own)
inductive At (c : Cx) (hid z : List (Addr × Obj)) (env : Env) (σ : Sto) (s : Shared) : Prop
  | mk (m : Pin) (own : List (Addr × Obj)) (h : AtX c hid z env σ s m own)
noncomputable abbrev Same (s s' : Shared) : Prop := s'.gens = s.gens ∧ s'.drawn = s.drawn ∧ s'.os = s.os
theorem Same.trans {a b d : Shared} (x : Same a b) (y : Same b d) : Same a d := ⟨y.1.trans x.1, y.2.1.trans x.2.1, y.2.2.trans x.2.2⟩
noncomputable abbrev Sub (z z' : List (Addr × Obj)) : Prop := ∀ p ∈ z, p ∈ z'

/-- the end of an expression's walk -/
inductive EP (c : Cx) (hid z : List (Addr × Obj)) (env : Env) (s : Shared) (Post : V → Sto → Prop) (v : Value) (s' : Shared) : Prop
  | mk (z' : List (Addr × Obj)) (V : V) (σ' : Sto) (h1 : Sub z z') (h2 : At c hid z' env σ' s') (h3 : VR (PP c.base z') V v) (h4 : Same s s') (h5 : Post V σ')
inductive OP (c : Cx) (hid z : List (Addr × Obj)) (env : Env) (s : Shared) (Post : List V → Sto → Prop) (v : Value) (s' : Shared) : Prop
  | mk (z' : List (Addr × Obj)) (xs : List V) (σ' : Sto) (b : Addr) (vs : List Value) (n : Nat) (h1 : Sub z z') (h2 : v = .ref b) (h3 : ∀ q ∈ hid, b ≠ q.1) (h4 : At c ((b, lobj vs n) :: hid) z' env σ' s') (h5 : VRs (PP c.base z') xs vs) (h6 : Same s s') (h7 : Post xs σ')
/-- an expression's walk -/
noncomputable def EV (c : Cx) (env : Env) (e : Expr) (σ : Sto) (Post : V → Sto → Prop) : Prop :=
  ∀ hid z s, At c hid z env σ s → ∀ E, wpAny c.M c.A (eval e env) (EP c hid z env s Post) E s
/-- an expression that makes a list that is nobody else's -/
noncomputable def EVO (c : Cx) (env : Env) (e : Expr) (σ : Sto) (Post : List V → Sto → Prop) : Prop :=
  ∀ hid z s, At c hid z env σ s → ∀ E, wpAny c.M c.A (eval e env) (OP c hid z env s Post) E s
theorem EnvOk.stays {c : Cx} {env : Env} {m : Pin} (k : EnvOk c env m) : ∀ a o, c.base.get? a = some o → m.g.get? a = some o := k.gok.below.stays
theorem At.base {c : Cx} {hid z : List (Addr × Obj)} {env : Env} {σ : Sto} {s : Shared} (H : At c hid z env σ s) : ∀ a o, c.base.get? a = some o → s.heap.get? a = some o := fun a o e => by
  obtain ⟨m, own, F, _, _, _, k, _⟩ := H
  exact F.keep a o (k.stays a o e)
theorem lens1 {α : Type} {P : List α → Prop} {n : Nat} (e : n = 1) (h : ∀ a, P [a]) (l : List α) (k : l.length = n) : P l := by
  subst e
  obtain ⟨a, rfl⟩ := List.length_eq_one_iff.mp k
  exact h a
theorem lensS {α : Type} {P : List α → Prop} {n m : Nat} (e : n = m + 1) (h : ∀ a l, l.length = m → P (a :: l)) (l : List α) (k : l.length = n) : P l := by
  subst e
  cases l with
  | nil => cases k
  | cons a l => exact h a l (Nat.succ.inj k)
def alts (q : Lean.Ident → Lean.MacroM (Lean.TSyntax `tactic)) (s : String) : Lean.MacroM (Array (Lean.TSyntax `tactic)) :=
  (s.splitOn " ").toArray.mapM fun n => q (Lean.mkIdent (`Mine ++ n.toName))
end
section
open PySem PySem.W PySem.Spec PySem.Calls PyProof.Rows

section
variable {c : Cx} {env : Env} {m : Pin} {own own' z z' hid hid' all all' : List (Addr × Obj)} {σ : Sto} {s s' : Shared} {x : Str} {v : Value} {l : LV}
theorem sub_all (h1 : Sub own own') (h2 : Sub z z') (h3 : Sub hid hid') : Sub (own ++ (z ++ hid)) (own' ++ (z' ++ hid')) := fun p hp => by
  simp only [List.mem_append] at hp ⊢
  rcases hp with h | h | h
  · exact .inl (h1 p h)
  · exact .inr (.inl (h2 p h))
  · exact .inr (.inr (h3 p h))
theorem sub_zh (h2 : Sub z z') (h3 : Sub hid hid') : Sub (z ++ hid) (z' ++ hid') := fun p hp => (List.mem_append.mp hp).elim (fun h => List.mem_append_left _ (h2 p h)) fun h => List.mem_append_right _ (h3 p h)
theorem NT.of_data {a : Addr} {o : Obj} (h : ∀ vs, o.data ≠ .fields vs) : NT (a, o) := fun ps e => h ps (by rw [show o = tabObj ps from e])
theorem NT.lobj {a : Addr} {vs : List Value} {n : Nat} : NT (a, lobj vs n) := .of_data fun _ e => nomatch e
theorem NT.tobj {a : Addr} {vs : List Value} {n : Nat} : NT (a, tobj vs n) := .of_data fun _ e => nomatch e
theorem NT.cell {a : Addr} {o : Obj} {v : Option Value} (h : o.data = .cell v) : NT (a, o) := .of_data fun _ e => by rw [h] at e; cases e
theorem NT.ns {a : Addr} {o : Obj} {m₂ : Str → Option Value} (h : LCg.NsObj o m₂) : NT (a, o) := .of_data fun _ e => by obtain ⟨es, ep, hd, _⟩ := h; rw [hd] at e; cases e
theorem TabIs.mono {P ln : Nat} {qual : Str} (hz : Sub z z') (ho : ∀ P ps, (P, tabObj ps) ∈ own → (P, tabObj ps) ∈ own') (H : TabIs z own P ln qual) : TabIs z' own' P ln qual := by
  obtain ⟨ps, h, k⟩ := H
  refine ⟨ps, ho _ _ h, k.imp id ?_⟩
  rintro ⟨c', oc, vs, t, e, a, b⟩
  exact ⟨c', oc, vs, t, e, hz _ a, b⟩
theorem Tb.mono {kp : List (Addr × Obj)} (H : Tb kp z own) (hz : Sub z z') (ho : ∀ P ps, (P, tabObj ps) ∈ own → (P, tabObj ps) ∈ own') : Tb kp z' own' := ⟨fun p hp => hz p (H.kept p hp), H.t1.mono hz ho, H.t2.mono hz ho⟩
noncomputable abbrev SubN (A B : List (Addr × Obj)) : Prop := ∀ p ∈ A, NT p → p ∈ B
theorem Src.monoN (h : SubN all all') (H : Src c env m all x v) : Src c env m all' x v := by
  rcases H with ⟨k, H⟩ | ⟨k, cd, o, a, b, d⟩
  · refine .inl ⟨k, H.imp id ?_⟩
    rintro ⟨oC, m₂, a, b, d⟩
    exact ⟨oC, m₂, h _ a (.ns b), b, d⟩
  · exact .inr ⟨k, cd, o, a, h _ b (.cell d), d⟩
theorem Src.mono (h : Sub all all') (H : Src c env m all x v) : Src c env m all' x v := H.monoN fun p hp _ => h p hp
theorem VarOk.monoN (h1 : SubN own own') (h2 : Sub z z') (h3 : Sub hid hid') (H : VarOk c env m own z hid x l) : VarOk c env m own' z' hid' x l := by
  have hs : SubN (own ++ (z ++ hid)) (own' ++ (z' ++ hid')) := fun p hp nt => by
    simp only [List.mem_append] at hp ⊢
    rcases hp with h | h | h
    · exact .inl (h1 p h nt)
    · exact .inr (.inl (h2 p h))
    · exact .inr (.inr (h3 p h))
  cases l with
  | frz V => obtain ⟨v, a, b⟩ := H; exact ⟨v, a.monoN hs, VR.mono (PP.mono h2) b⟩
  | own q xs => obtain ⟨a, vs, n, b, d⟩ := H; exact ⟨a.monoN hs, vs, n, h1 _ b .lobj, VRs.mono (PP.mono h2) d⟩
  | brw q xs => obtain ⟨a, vs, n, e, d⟩ := H; exact ⟨a.monoN hs, vs, n, sub_zh h2 h3 _ e, VRs.mono (PP.mono h2) d⟩
  | raw w => exact H.monoN hs
theorem VarOk.mono (h1 : Sub own own') (h2 : Sub z z') (h3 : Sub hid hid') (H : VarOk c env m own z hid x l) : VarOk c env m own' z' hid' x l := by
  have hs := sub_all h1 h2 h3
  cases l with
  | frz V => obtain ⟨v, a, b⟩ := H; exact ⟨v, a.mono hs, VR.mono (PP.mono h2) b⟩
  | own q xs => obtain ⟨a, vs, n, b, d⟩ := H; exact ⟨a.mono hs, vs, n, h1 _ b, VRs.mono (PP.mono h2) d⟩
  | brw q xs => obtain ⟨a, vs, n, e, d⟩ := H; exact ⟨a.mono hs, vs, n, sub_zh h2 h3 _ e, VRs.mono (PP.mono h2) d⟩
  | raw w => exact H.mono hs
theorem At.weaken {σ₂ : Sto} (h : Le σ₂ σ) (H : At c hid z env σ s) : At c hid z env σ₂ s := by
  obtain ⟨m, own, F, N, S1, S2, k, V, U, C⟩ := H
  exact ⟨m, own, F, N, S1, S2, k, fun x l hx => V x l (h _ _ hx), fun x y b xs ys hx hy => U x y b xs ys (h _ _ hx) (h _ _ hy), fun e => ⟨(C.1 e).1, (C.1 e).2.1, fun y q us hy => (C.1 e).2.2 y q us (h _ _ hy)⟩, C.2⟩
theorem At.heap (H : At c hid z env σ s) (e : s'.heap = s.heap) : At c hid z env σ s' := by
  obtain ⟨m, own, F, N, S1, S2, k, V, U, C⟩ := H
  exact ⟨m, own, by rw [e]; exact F, by rw [e]; exact N, S1, S2, k, V, U, C⟩
theorem At.toks {n : Nat} (H : At c hid z env σ s) : At c hid z env σ { s with toks := n } := H.heap rfl
/-- the parts of a state, where the ledgers grow and the frame's heap with them -/
theorem At.grow {h' : Heap} {t : Nat} (H : AtX c hid z env σ s m own) (F : Fr m.g c.L h' m.m) (N : News m.g c.L h' (own ++ (z' ++ hid'))) (hz : Sub z z') (hh : Sub hid hid') (S1 : Sep own (z' ++ hid')) (S2 : Sep z' hid') :
    At c hid' z' env σ { s with heap := h', toks := t } := by
  obtain ⟨_, _, _, _, k, V, U, C⟩ := H
  exact ⟨m, own, F, N, S1, S2, k, fun x l hx => (V x l hx).mono (fun _ h => h) hz hh, U, C.1, C.2.mono hz fun _ _ h => h⟩
theorem newAddr {o : Obj} {g : Heap} {L : Addr} (N : News g L s.heap all) : ∀ p ∈ all, p.1 ≠ s.heap.objs.size := fun p hp => Nat.ne_of_lt (Heap.lt_size (N p hp).1)
theorem At.pushZ {o : Obj} (H : At c hid z env σ s) (hf : o.isFreed = false := by rfl) : At c hid ((s.heap.objs.size, o) :: z) env σ { s with heap := s.heap.push o } := by
  obtain ⟨m, own, X⟩ := H
  have X' := X
  obtain ⟨F, N, S1, S2, k, V, U, C⟩ := X
  have hn := newAddr (o := o) N
  refine At.grow (t := s.toks) X' (F.push o) (fun p hp => (N.push F o hf) p ?_) (fun p h => .tail _ h) (fun _ h => h) ?_ ?_
  · simp only [List.mem_append, List.mem_cons] at hp ⊢
    rcases hp with h | (h | h) | h
    · exact .inr (.inl h)
    · exact .inl h
    · exact .inr (.inr (.inl h))
    · exact .inr (.inr (.inr h))
  · intro p hp q hq
    rcases List.mem_cons.mp hq with rfl | hq
    · exact hn p (List.mem_append_left _ hp)
    · exact S1 p hp q hq
  · intro p hp q hq
    rcases List.mem_cons.mp hp with rfl | hp
    · exact Ne.symm (hn q (List.mem_append_right _ (List.mem_append_right _ hq)))
    · exact S2 p hp q hq
theorem At.pushH {o : Obj} (H : At c hid z env σ s) (hf : o.isFreed = false := by rfl) : At c ((s.heap.objs.size, o) :: hid) z env σ { s with heap := s.heap.push o } := by
  obtain ⟨m, own, X⟩ := H
  have X' := X
  obtain ⟨F, N, S1, S2, k, V, U, C⟩ := X
  have hn := newAddr (o := o) N
  refine At.grow (t := s.toks) X' (F.push o) (fun p hp => (N.push F o hf) p ?_) (fun p h => h) (fun _ h => .tail _ h) ?_ ?_
  · simp only [List.mem_append, List.mem_cons] at hp ⊢
    rcases hp with h | h | h | h
    · exact .inr (.inl h)
    · exact .inr (.inr (.inl h))
    · exact .inl h
    · exact .inr (.inr (.inr h))
  · intro p hp q hq
    rcases List.mem_append.mp hq with hq | hq
    · exact S1 p hp q (List.mem_append_left _ hq)
    · rcases List.mem_cons.mp hq with rfl | hq
      · exact hn p (List.mem_append_left _ hp)
      · exact S1 p hp q (List.mem_append_right _ hq)
  · intro p hp q hq
    rcases List.mem_cons.mp hq with rfl | hq
    · exact hn p (List.mem_append_right _ (List.mem_append_left _ hp))
    · exact S2 p hp q hq
/-- a hidden object is shown: it may not change any more -/
theorem At.show_ {p : Addr × Obj} (H : At c (p :: hid) z env σ s) (hp : ∀ q ∈ hid, p.1 ≠ q.1) : At c hid (p :: z) env σ s := by
  obtain ⟨m, own, X⟩ := H
  have X' := X
  obtain ⟨F, N, S1, S2, k, V, U, C⟩ := X
  have perm : ∀ q, q ∈ own ++ (z ++ (p :: hid)) ↔ q ∈ own ++ (p :: z ++ hid) := fun q => by simp only [List.mem_append, List.mem_cons, List.cons_append]; grind
  have perm2 : ∀ q, q ∈ z ++ (p :: hid) ↔ q ∈ p :: z ++ hid := fun q => by simp only [List.mem_append, List.mem_cons, List.cons_append]; grind
  refine ⟨m, own, F, fun q hq => N q ((perm q).mpr hq), fun q hq r hr => S1 q hq r ((perm2 r).mpr hr), fun q hq r hr => ?_, k, fun x l hx => ?_, U, C.1, C.2.mono (fun q h => .tail _ h) fun _ _ h => h⟩
  · rcases List.mem_cons.mp hq with rfl | hq
    · exact hp r hr
    · exact S2 q hq r (.tail _ hr)
  · have := V x l hx
    cases l with
    | frz V => obtain ⟨v, a, b⟩ := this; exact ⟨v, a.mono fun q hq => (perm q).mp hq, VR.mono (PP.mono fun q h => .tail _ h) b⟩
    | own q xs => obtain ⟨a, vs, n, b, d⟩ := this; exact ⟨a.mono fun q hq => (perm q).mp hq, vs, n, b, VRs.mono (PP.mono fun q h => .tail _ h) d⟩
    | brw q xs => obtain ⟨a, vs, n, e, d⟩ := this; exact ⟨a.mono fun q hq => (perm q).mp hq, vs, n, (perm2 _).mp e, VRs.mono (PP.mono fun q h => .tail _ h) d⟩
    | raw w => exact Src.mono (fun q hq => (perm q).mp hq) this
noncomputable abbrev isTab (p : Addr × Obj) : Bool := p.1 == (nat_lit 64) || p.1 == (nat_lit 71)
noncomputable abbrev tabsOf (l : List (Addr × Obj)) : List (Addr × Obj) := l.filter isTab
noncomputable abbrev restOf (l : List (Addr × Obj)) : List (Addr × Obj) := l.filter fun p => !isTab p
theorem Tb.keep {kp kp' : List (Addr × Obj)} (H : Tb kp z own) (h : ∀ p ∈ kp', p ∈ z) : Tb kp' z own := ⟨h, H.t1, H.t2⟩
theorem Tb.tabs {kp : List (Addr × Obj)} (H : Tb kp z own) : Tb kp z (tabsOf own) := by
  obtain ⟨kk, ⟨ps, h, k⟩, ⟨ps', h', k'⟩⟩ := H
  exact ⟨kk, ⟨ps, List.mem_filter.mpr ⟨h, rfl⟩, k⟩, ⟨ps', List.mem_filter.mpr ⟨h', rfl⟩, k'⟩⟩
theorem Tb.nt {h : Heap} {kp : List (Addr × Obj)} (H : Tb kp z own) (N : News m.g c.L h (own ++ (z ++ hid))) {p : Addr × Obj} (hp : p ∈ own) (nt : NT p) : isTab p = false := by
  have one : ∀ P ps, (P, tabObj ps) ∈ own → p.1 ≠ P := fun P ps hm e => by
    have h1 := (N _ (List.mem_append_left _ hm)).1
    have h2 := (N _ (List.mem_append_left _ hp)).1
    rw [e] at h2
    have h3 : some (tabObj ps) = some p.2 := h1.symm.trans h2
    exact nt ps (Option.some.inj h3).symm
  obtain ⟨_, ⟨ps, h, k⟩, ⟨ps', h', k'⟩⟩ := H
  have a := one _ _ h
  have b := one _ _ h'
  show (_ || _) = false
  rw [Bool.or_eq_false_iff]
  exact ⟨beq_eq_false_iff_ne.mpr a, beq_eq_false_iff_ne.mpr b⟩
theorem mem_rest {p : Addr × Obj} (h : p ∈ own) (k : isTab p = false) : p ∈ restOf own := List.mem_filter.mpr ⟨h, by rw [k]; rfl⟩
theorem tab_ne {p q : Addr × Obj} (hp : isTab p = true) (hq : isTab q = false) : p.1 ≠ q.1 := fun e => by
  have : isTab p = isTab q := by show (_ || _) = (_ || _); rw [e]
  rw [hp, hq] at this; cases this
end
end
section
open PySem PySem.W PySem.Spec PySem.Calls PyProof.Rows

section
variable {c : Cx} {env : Env} {m : Pin} {own own' z z' hid hid' all all' : List (Addr × Obj)} {σ : Sto} {s s' : Shared} {x : Str} {v : Value} {l : LV} {E : Value → Shared → Prop}
noncomputable abbrev setAt (d : Addr) (o' : Obj) (p : Addr × Obj) : Addr × Obj := if p.1 = d then (d, o') else p
theorem map_off {d : Addr} {o' : Obj} : ∀ {l : List (Addr × Obj)}, (∀ p ∈ l, p.1 ≠ d) → l.map (setAt d o') = l
  | [], _ => rfl
  | p :: r, h => by
    rw [List.map_cons, map_off fun q hq => h q (.tail _ hq)]
    unfold setAt
    rw [if_neg (h p (.head _))]
theorem mem_map_off {d : Addr} {o' : Obj} {l : List (Addr × Obj)} {p : Addr × Obj} (h : p ∈ l) (hp : p.1 ≠ d) : p ∈ l.map (setAt d o') :=
  List.mem_map.mpr ⟨p, h, by unfold setAt; rw [if_neg hp]⟩
theorem mem_map_at {d : Addr} {o o' : Obj} {l : List (Addr × Obj)} (h : (d, o) ∈ l) : (d, o') ∈ l.map (setAt d o') :=
  List.mem_map.mpr ⟨(d, o), h, by unfold setAt; rw [if_pos rfl]⟩
theorem of_mem_map {d : Addr} {o' : Obj} {l : List (Addr × Obj)} {p : Addr × Obj} (h : p ∈ l.map (setAt d o')) : ∃ q ∈ l, q.1 = p.1 := by
  obtain ⟨q, hq, rfl⟩ := List.mem_map.mp h
  refine ⟨q, hq, ?_⟩
  unfold setAt
  by_cases e : q.1 = d
  · rw [if_pos e]; exact e
  · rw [if_neg e]
/-- an own object changed in its place -/
theorem own_change {d : Addr} {o o' : Obj} {h h' : Heap} (F : Fr m.g c.L h m.m) (N : News m.g c.L h (own ++ (z ++ hid))) (S1 : Sep own (z ++ hid)) (hm : (d, o) ∈ own) (hs : Heap.SameBut d h h') (ho : h'.get? d = some o') :
    Fr m.g c.L h' m.m ∧ News m.g c.L h' (own.map (setAt d o') ++ (z ++ hid)) ∧ Sep (own.map (setAt d o')) (z ++ hid) := by
  have hd := N (d, o) (List.mem_append_left _ hm)
  refine ⟨F.change hs hd.2.1 hd.2.2, ?_, ?_⟩
  · have := N.update (List.mem_append_left _ hm) hs ho
    rw [List.map_append] at this
    have e : (z ++ hid).map (fun p => if p.1 = d then (d, o') else p) = z ++ hid := map_off fun p hp => Ne.symm (S1 _ hm p hp)
    rw [e] at this
    exact this
  · intro p hp q hq
    obtain ⟨r, hr, e⟩ := of_mem_map hp
    rw [← e]
    exact S1 r hr q hq
noncomputable abbrev CellsOk (c : Cx) (own : List (Addr × Obj)) : Prop := (∀ x cd, c.cl.lookup x = some cd → ∃ o v₀, ((cd, o) ∈ own ∨ (cd, o) ∈ c.keep) ∧ o.data = .cell v₀) ∧ ∀ x y cd, c.cl.lookup x = some cd → c.cl.lookup y = some cd → x = y
noncomputable def Storable (c : Cx) (x : Str) : Prop := c.pin = none ∧ (c.env.kindOf x = some .local ∨ (c.env.kindOf x = some .cell ∧ (c.cl.lookup x).isSome = true ∧ c.keep = []))
theorem EnvOk.any {m m' : Pin} (k : EnvOk c env m) (h : c.pin = none) (hg : m.g = m'.g) : EnvOk c env m' := ⟨hg ▸ k.gok, k.kind, k.globals, k.builtins, fun m₀ e => by rw [h] at e; cases e⟩
theorem store_core (X : AtX c hid z c.env σ s m own) (hk : Storable c x) :
    wpAny c.M c.A (storeName c.env x v) (fun _ s' => (∃ (m' : Pin) (own' : List (Addr × Obj)), m.g = m'.g ∧ Fr m'.g c.L s'.heap m'.m ∧ News m'.g c.L s'.heap (own' ++ (z ++ hid)) ∧ Sep own' (z ++ hid) ∧
      (∀ y u, y ≠ x → Src c c.env m (own ++ (z ++ hid)) y u → Src c c.env m' (own' ++ (z ++ hid)) y u) ∧ Src c c.env m' (own' ++ (z ++ hid)) x v ∧ (∀ b vs n, (b, lobj vs n) ∈ own → (b, lobj vs n) ∈ own') ∧
      (∀ b vs n, (b, lobj vs n) ∈ own ++ (z ++ hid) → (b, lobj vs n) ∈ own' ++ (z ++ hid)) ∧ CellsOk c own' ∧ Tb c.keep z own') ∧ Same s s') E s := by
  obtain ⟨F, N, S1, S2, k, V, U, C⟩ := X
  obtain ⟨⟨C1, C2, C3⟩, tb⟩ := And.intro (C.1 rfl) C.2
  rcases hk.2 with hk | ⟨hk, hc, hkp⟩
  · refine wpAny_storeName_local hk F.ns (fun h' hn hs => ⟨⟨⟨fun y => if y = x then some v else m.m y, m.g⟩, own, rfl, F.set hn hs, N.set hs, S1, fun y u hy H => ?_, ?_, fun _ _ _ h => h, fun _ _ _ h => h, ⟨C1, C2⟩, tb⟩, rfl, rfl, rfl⟩) ?_
    · rcases H with ⟨k', H⟩ | H
      · refine .inl ⟨k', H.imp (fun ⟨a, b⟩ => ⟨a, ?_⟩) id⟩
        simpa [hy] using b
      · exact .inr H
    · exact .inl ⟨hk, .inl ⟨rfl, by simp⟩⟩
    · have hk' : c.cs.kind = .function := k.kind
      show (c.cs.kind == .class || (c.cs.kind == .module && c.L != mainGlobals)) = false
      rw [hk']; rfl
  · obtain ⟨cd, hcd⟩ := Option.isSome_iff_exists.mp hc
    obtain ⟨o, v₀, hm, hd⟩ := C1 x cd hcd
    replace hm : (cd, o) ∈ own := hm.elim id fun h => by rw [hkp] at h; cases h
    have hget := N (cd, o) (List.mem_append_left _ hm)
    refine wpAny_storeName_cell k.kind hk hcd ⟨o, hget.1, hd⟩ fun h' hv hs => ?_
    obtain ⟨o', ho', hd'⟩ := hv
    obtain ⟨F', N', S'⟩ := own_change F N S1 hm hs ho'
    have noList : ∀ b vs n, (b, lobj vs n) ∈ own ++ (z ++ hid) → b ≠ cd := by
      rintro b vs n hb rfl
      have h1 := (N _ hb).1
      rw [hget.1] at h1
      have h2 : o = lobj vs n := Option.some.inj h1
      rw [h2] at hd; cases hd
    refine ⟨⟨m, _, rfl, F', N', S', fun y u hy H => ?_, ?_, fun b vs n hb => mem_map_off hb (noList b vs n (List.mem_append_left _ hb)), fun b vs n hb => ?_, ⟨fun y cy hy => ?_, C2⟩, tb.mono (fun _ h => h) fun P ps hb => mem_map_off hb fun e => ?_⟩, rfl, rfl, rfl⟩
    · have keep : ∀ b ob, b ≠ cd → (b, ob) ∈ own ++ (z ++ hid) → (b, ob) ∈ own.map (setAt cd o') ++ (z ++ hid) := fun b ob hne hb => by
        rcases List.mem_append.mp hb with hb | hb
        · exact List.mem_append_left _ (mem_map_off hb hne)
        · exact List.mem_append_right _ hb
      rcases H with ⟨k', H⟩ | ⟨k', cy, oy, hy', hb, hdy⟩
      · refine .inl ⟨k', H.imp id ?_⟩
        rintro ⟨oC, m₂, a, b⟩
        exact absurd rfl (N _ a).2.1
      · refine .inr ⟨k', cy, oy, hy', keep _ _ (fun e => hy (C2 y x cd ?_ hcd)) hb, hdy⟩
        rw [← e]; exact hy'
    · exact .inr ⟨.inl hk, cd, o', hcd, List.mem_append_left _ (mem_map_at hm), hd'⟩
    · rcases List.mem_append.mp hb with hb' | hb'
      · exact List.mem_append_left _ (mem_map_off hb' (noList b vs n hb))
      · exact List.mem_append_right _ hb'
    · obtain ⟨oy, v₁, hmy, hdy⟩ := C1 y cy hy
      replace hmy : (cy, oy) ∈ own := hmy.elim id fun h => by rw [hkp] at h; cases h
      by_cases e : cy = cd
      · subst e; exact ⟨o', _, .inl (mem_map_at hm), hd'⟩
      · exact ⟨oy, v₁, .inl (mem_map_off hmy e), hdy⟩
    · have h1 := (N _ (List.mem_append_left _ hb)).1
      rw [show P = cd from e, hget.1] at h1
      have h2 : o = tabObj ps := Option.some.inj h1
      rw [h2] at hd; cases hd
theorem noBrw_put {l : LV} (h : ∀ y q us, sget σ y ≠ some (.brw q us)) (hl : ∀ q us, l ≠ .brw q us) : ∀ y q us, sget (sput σ x l) y ≠ some (.brw q us) := fun y q us e => by
  by_cases h1 : y = x
  · subst h1; rw [sget_sput_same] at e; exact hl _ _ (Option.some.inj e)
  · rw [sget_sput_ne h1] at e; exact h _ _ _ e
theorem At.store {W : Mine.V} (H : At c hid z c.env σ s) (hv : VR (PP c.base z) W v) (hk : Storable c x) :
    wpAny c.M c.A (storeName c.env x v) (fun _ s' => At c hid z c.env (sput σ x (.frz W)) s' ∧ Same s s') E s := by
  obtain ⟨m, own, X⟩ := H
  refine wpAny_mono (store_core X hk) (fun _ s' h => ?_) fun _ _ e => e
  obtain ⟨⟨m', own', hg, F, N, S1, hs, hx, hl, hl', C⟩, sm⟩ := h
  obtain ⟨_, _, _, S2, k, V, U, C0⟩ := X
  refine ⟨⟨m', own', F, N, S1, S2, k.any hk.1 hg, fun y l hy => ?_, fun y y' b xs ys hy hy' => ?_, fun _ => ⟨C.1.1, C.1.2, noBrw_put (C0.1 rfl).2.2 fun _ _ e => nomatch e⟩, C.2⟩, sm⟩
  · by_cases e : y = x
    · subst e
      rw [sget_sput_same] at hy; cases hy
      exact ⟨v, hx, hv⟩
    · rw [sget_sput_ne e] at hy
      have := V y l hy
      cases l with
      | frz W => obtain ⟨u, a, b⟩ := this; exact ⟨u, hs _ _ e a, b⟩
      | own q xs => obtain ⟨a, vs, n, b, d⟩ := this; exact ⟨hs _ _ e a, vs, n, hl _ _ _ b, d⟩
      | brw q xs => obtain ⟨a, vs, n, b', d⟩ := this; exact ⟨hs _ _ e a, vs, n, b', d⟩
      | raw w => exact hs _ _ e this
  · by_cases h1 : y = x
    · subst h1; rw [sget_sput_same] at hy; cases hy
    · by_cases h2 : y' = x
      · subst h2; rw [sget_sput_same] at hy'; cases hy'
      · rw [sget_sput_ne h1] at hy; rw [sget_sput_ne h2] at hy'
        exact U _ _ _ _ _ hy hy'
theorem At.storeO {xs : List Mine.V} {b : Addr} {vs : List Value} {n : Nat} (H : At c ((b, lobj vs n) :: hid) z c.env σ s) (hb : ∀ q ∈ hid, b ≠ q.1) (hv : VRs (PP c.base z) xs vs) (hk : Storable c x) :
    wpAny c.M c.A (storeName c.env x (.ref b)) (fun _ s' => At c hid z c.env (sput σ x (.own b xs)) s' ∧ Same s s') E s := by
  obtain ⟨m, own, X⟩ := H
  refine wpAny_mono (store_core X hk) (fun _ s' h => ?_) fun _ _ e => e
  obtain ⟨⟨m', own', hg, F, N, S1, hs, hx, hl, hl', C⟩, sm⟩ := h
  obtain ⟨_, _, S10, S2, k, V, U, C0⟩ := X
  have perm : ∀ q, q ∈ own' ++ (z ++ ((b, lobj vs n) :: hid)) ↔ q ∈ ((b, lobj vs n) :: own') ++ (z ++ hid) := fun q => by simp only [List.mem_append, List.mem_cons, List.cons_append]; grind
  have hin : ∀ {p}, p ∈ z ++ hid → p ∈ z ++ ((b, lobj vs n) :: hid) := fun {p} h => by simp only [List.mem_append, List.mem_cons] at h ⊢; grind
  refine ⟨⟨m', (b, lobj vs n) :: own', F, fun p hp => N p ((perm p).mpr hp), ?_, fun p hp q hq => S2 p hp q (.tail _ hq), k.any hk.1 hg, fun y l hy => ?_, fun y y' d us ys hy hy' => ?_, fun _ => ⟨fun y cd hy => ?_, C.1.2, noBrw_put (C0.1 rfl).2.2 fun _ _ e => nomatch e⟩, C.2.mono (fun _ h => h) fun _ _ h => .tail _ h⟩, sm⟩
  · intro p hp q hq
    rcases List.mem_cons.mp hp with rfl | hp
    · rcases List.mem_append.mp hq with hq | hq
      · exact Ne.symm (S2 q hq _ (.head _))
      · exact hb q hq
    · exact S1 p hp q (hin hq)
  · by_cases e : y = x
    · subst e
      rw [sget_sput_same] at hy; cases hy
      exact ⟨hx.mono fun q hq => (perm q).mp hq, vs, n, .head _, hv⟩
    · rw [sget_sput_ne e] at hy
      have := V y l hy
      cases l with
      | frz W => obtain ⟨u, a, b⟩ := this; exact ⟨u, (hs _ _ e a).mono fun q hq => (perm q).mp hq, b⟩
      | own q us =>
        obtain ⟨a, us', n', b', d⟩ := this
        exact ⟨(hs _ _ e a).mono fun q hq => (perm q).mp hq, us', n', .tail _ (hl _ _ _ b'), d⟩
      | brw q us => exact absurd hy ((C0.1 rfl).2.2 y q us)
      | raw w => exact (hs _ _ e this).mono fun q hq => (perm q).mp hq
  · have off : ∀ {y : Str} {d : Addr} {ys : List Mine.V}, y ≠ x → sget (sput σ x (.own b xs)) y = some (.own d ys) → b ≠ d := fun {y d ys} e hy => by
      rw [sget_sput_ne e] at hy
      obtain ⟨_, us', n', b', _⟩ := V y _ hy
      exact Ne.symm (S10 _ b' (b, lobj vs n) (List.mem_append_right _ (.head _)))
    by_cases h1 : y = x
    · by_cases h2 : y' = x
      · rw [h1, h2]
      · subst h1; rw [sget_sput_same] at hy; cases hy
        exact absurd rfl (off h2 hy')
    · by_cases h2 : y' = x
      · subst h2; rw [sget_sput_same] at hy'; cases hy'
        exact absurd rfl (off h1 hy)
      · rw [sget_sput_ne h1] at hy; rw [sget_sput_ne h2] at hy'
        exact U _ _ _ _ _ hy hy'
  · obtain ⟨o, v₀, a, d⟩ := C.1.1 y cd hy
    exact ⟨o, v₀, a.imp (.tail _) id, d⟩
/-- a list that the frame may change is given away -/
theorem At.freeze {xs : List Mine.V} {b : Addr} (H : At c hid z env σ s) (hx : sget σ x = some (.own b xs)) : ∃ z', Sub z z' ∧ At c hid z' env (sput σ x (.frz (.lst xs))) s := by
  obtain ⟨m, own, F, N, S1, S2, k, V, U, C⟩ := H
  obtain ⟨hsrc, vs, n, hm, hv⟩ := V x _ hx
  have keep : ∀ p, p ∈ own ++ (z ++ hid) → p ∈ own.filter (fun p => p.1 != b) ++ ((b, lobj vs n) :: z ++ hid) := fun p hp => by
    by_cases e : p.1 = b
    · have h1 := (N p hp).1
      have h2 := (N _ (List.mem_append_left _ hm)).1
      rw [e] at h1
      have : p = (b, lobj vs n) := by
        obtain ⟨a, o⟩ := p
        simp only at e h1
        rw [h2] at h1
        cases h1; rw [e]
      rw [this]
      exact List.mem_append_right _ (.head _)
    · rcases List.mem_append.mp hp with hp | hp
      · exact List.mem_append_left _ (List.mem_filter.mpr ⟨hp, bne_iff_ne.mpr e⟩)
      · exact List.mem_append_right _ (.tail _ hp)
  refine ⟨(b, lobj vs n) :: z, fun p h => .tail _ h, m, own.filter (fun p => p.1 != b), F, ?_, ?_, ?_, k, fun y l hy => ?_, fun y y' d us ys hy hy' => ?_, fun e => ?_, C.2.mono (fun q h => .tail _ h) fun P ps hb => List.mem_filter.mpr ⟨hb, bne_iff_ne.mpr fun e => ?_⟩⟩
  rotate_right
  · have h1 := (N _ (List.mem_append_left _ hb)).1
    rw [show P = b from e, (N _ (List.mem_append_left _ hm)).1] at h1
    have h2 : lobj vs n = tabObj ps := Option.some.inj h1
    cases h2
  · intro p hp
    refine N p ?_
    simp only [List.mem_append, List.mem_cons, List.mem_filter, List.cons_append] at hp ⊢
    rcases hp with h | h | h | h
    · exact .inl h.1
    · subst h; exact .inl hm
    · exact .inr (.inl h)
    · exact .inr (.inr h)
  · intro p hp q hq
    obtain ⟨hp, hne⟩ := List.mem_filter.mp hp
    rcases List.mem_cons.mp hq with rfl | hq
    · exact bne_iff_ne.mp hne
    · exact S1 p hp q hq
  · intro p hp q hq
    rcases List.mem_cons.mp hp with rfl | hp
    · exact S1 _ hm q (List.mem_append_right _ hq)
    · exact S2 p hp q hq
  · by_cases e : y = x
    · subst e
      rw [sget_sput_same] at hy; cases hy
      refine ⟨.ref (b), hsrc.mono keep, ?_⟩
      unfold VR
      exact ⟨b, vs, n, rfl, .inr (.head _), VRs.mono (PP.mono fun p h => .tail _ h) hv⟩
    · rw [sget_sput_ne e] at hy
      have := V y l hy
      cases l with
      | frz W => obtain ⟨u, a, b⟩ := this; exact ⟨u, a.mono keep, VR.mono (PP.mono fun p h => .tail _ h) b⟩
      | own q us =>
        obtain ⟨a, us', n', b', d⟩ := this
        exact ⟨a.mono keep, us', n', List.mem_filter.mpr ⟨b', bne_iff_ne.mpr fun h => e (U y x _ _ _ hy (h ▸ hx))⟩, VRs.mono (PP.mono fun p h => .tail _ h) d⟩
      | brw q us =>
        obtain ⟨a, us', n', b', d⟩ := this
        exact ⟨a.mono keep, us', n', .tail _ b', VRs.mono (PP.mono fun p h => .tail _ h) d⟩
      | raw w => exact Src.mono keep this
  · by_cases h1 : y = x
    · subst h1; rw [sget_sput_same] at hy; cases hy
    · by_cases h2 : y' = x
      · subst h2; rw [sget_sput_same] at hy'; cases hy'
      · rw [sget_sput_ne h1] at hy; rw [sget_sput_ne h2] at hy'
        exact U _ _ _ _ _ hy hy'
  · refine ⟨fun y cd hy => ?_, (C.1 e).2.1, noBrw_put (C.1 e).2.2 fun _ _ e => nomatch e⟩
    obtain ⟨o, v₀, a, d⟩ := (C.1 e).1 y cd hy
    refine ⟨o, v₀, a.imp (fun a => List.mem_filter.mpr ⟨a, bne_iff_ne.mpr ?_⟩) id, d⟩
    rintro rfl
    have h1 := (N _ (List.mem_append_left _ a)).1
    rw [(N _ (List.mem_append_left _ hm)).1] at h1
    have : lobj vs n = o := Option.some.inj h1
    rw [← this] at d; cases d
/-- a list that the frame may change is changed -/
theorem At.mutate {xs xs' : List Mine.V} {vs vs' : List Value} {n n' : Nat} {h' : Heap} {t : Nat} {b : Addr} (X : AtX c hid z env σ s m own) (hx : sget σ x = some (.own b xs)) (hm : (b, lobj vs n) ∈ own)
    (hs : Heap.SameBut (b) s.heap h') (ho : h'.get? (b) = some (lobj vs' n')) (hv : VRs (PP c.base z) xs' vs') :
    At c hid z env (sput σ x (.own b xs')) { s with heap := h', toks := t } := by
  obtain ⟨F, N, S1, S2, k, V, U, C⟩ := X
  obtain ⟨F', N', S'⟩ := own_change F N S1 hm hs ho
  have keep : ∀ q ob, q ≠ b → (q, ob) ∈ own ++ (z ++ hid) → (q, ob) ∈ own.map (setAt b (lobj vs' n')) ++ (z ++ hid) := fun q ob hne hb => by
    rcases List.mem_append.mp hb with hb | hb
    · exact List.mem_append_left _ (mem_map_off hb hne)
    · exact List.mem_append_right _ hb
  have hget := (N _ (List.mem_append_left _ hm)).1
  have src : ∀ y u, Src c env m (own ++ (z ++ hid)) y u → Src c env m (own.map (setAt (b) (lobj vs' n')) ++ (z ++ hid)) y u := fun y u H => by
    have other : ∀ q ob, (q, ob) ∈ own ++ (z ++ hid) → ob ≠ lobj vs n → q ≠ b := by
      rintro q ob hb hne rfl
      have h1 := (N _ hb).1
      rw [hget] at h1
      exact hne (Option.some.inj h1).symm
    rcases H with ⟨k', H⟩ | ⟨k', cy, oy, hy', hb, hdy⟩
    · refine .inl ⟨k', H.imp id ?_⟩
      rintro ⟨oC, m₂, a, ⟨es, ep, hd, q⟩, e⟩
      exact ⟨oC, m₂, keep _ _ (other _ _ a fun e => by rw [e] at hd; cases hd) a, ⟨es, ep, hd, q⟩, e⟩
    · exact .inr ⟨k', cy, oy, hy', keep _ _ (other _ _ hb fun e => by rw [e] at hdy; cases hdy) hb, hdy⟩
  refine ⟨m, _, F', N', S', S2, k, fun y l hy => ?_, fun y y' d us ys hy hy' => ?_, fun e => ⟨fun y cd hy => ?_, (C.1 e).2.1, noBrw_put (C.1 e).2.2 fun _ _ e => nomatch e⟩, C.2.mono (fun _ h => h) fun P ps hb => mem_map_off hb fun e => ?_⟩
  · by_cases e : y = x
    · subst e
      rw [sget_sput_same] at hy; cases hy
      exact ⟨src _ _ (V y _ hx).1, vs', n', mem_map_at hm, hv⟩
    · rw [sget_sput_ne e] at hy
      have := V y l hy
      cases l with
      | frz W => obtain ⟨u, a, b⟩ := this; exact ⟨u, src _ _ a, b⟩
      | own q us =>
        obtain ⟨a, us', n', b', d⟩ := this
        exact ⟨src _ _ a, us', n', mem_map_off b' fun h => e (U y x _ _ _ hy (h ▸ hx)), d⟩
      | brw q us => obtain ⟨a, us', n', b', d⟩ := this; exact ⟨src _ _ a, us', n', b', d⟩
      | raw w => exact src _ _ this
  · have : ∀ {y : Str} {d : Addr} {us : List Mine.V}, sget (sput σ x (.own b xs')) y = some (.own d us) → ∃ us', sget σ y = some (.own d us') := fun {y d us} h => by
      by_cases h1 : y = x
      · subst h1; rw [sget_sput_same] at h; cases h; exact ⟨_, hx⟩
      · rw [sget_sput_ne h1] at h; exact ⟨_, h⟩
    obtain ⟨_, h1⟩ := this hy
    obtain ⟨_, h2⟩ := this hy'
    exact U _ _ _ _ _ h1 h2
  · obtain ⟨o, v₀, a, d⟩ := (C.1 e).1 y cd hy
    refine ⟨o, v₀, a.imp (fun a => mem_map_off a ?_) id, d⟩
    rintro rfl
    have h1 := (N _ (List.mem_append_left _ a)).1
    rw [hget] at h1
    have : lobj vs n = o := Option.some.inj h1
    rw [← this] at d; cases d
  · have h1 := (N _ (List.mem_append_left _ hb)).1
    rw [show P = b from e, hget] at h1
    have h2 : lobj vs n = tabObj ps := Option.some.inj h1
    cases h2
end
end
section
open PySem PySem.W PySem.Spec PySem.Calls PyProof.Rows

section
variable {c : Cx} {env : Env} {z z' hid : List (Addr × Obj)} {σ σ' : Sto} {s s' s₁ : Shared} {x : Str} {v : Value} {E : Value → Shared → Prop} {e l r : Expr} {pos : Pos} {Post : V → Sto → Prop} {op : Operator} {cop : CmpOp} {a b : V} {P : V → Prop}
theorem EP.from (h : EP c hid z' env s₁ Post v s') (hz : Sub z z') (hs : Same s s₁) : EP c hid z env s Post v s' := by
  obtain ⟨z2, W, σ2, a, b, d, e, f⟩ := h
  exact ⟨z2, W, σ2, fun p hp => a p (hz p hp), b, d, hs.trans e, f⟩
theorem EP.int {i : Int} {t n : Nat} (H : At c hid z env σ s) (h : Post (.int i) σ) : EP c hid z env s Post (.int i t) { s with toks := n } :=
  ⟨z, .int i, σ, fun _ h => h, H.toks, by unfold VR; exact ⟨t, rfl⟩, ⟨rfl, rfl, rfl⟩, h⟩
theorem EP.str {i : Str} {t n : Nat} (H : At c hid z env σ s) (h : Post (.str i) σ) : EP c hid z env s Post (.str i t) { s with toks := n } :=
  ⟨z, .str i, σ, fun _ h => h, H.toks, by unfold VR; exact ⟨t, rfl⟩, ⟨rfl, rfl, rfl⟩, h⟩
theorem EP.bool {i : Bool} (H : At c hid z env σ s) (h : Post (.bool i) σ) : EP c hid z env s Post (.bool i) s :=
  ⟨z, .bool i, σ, fun _ h => h, H, by unfold VR; rfl, ⟨rfl, rfl, rfl⟩, h⟩
theorem EV.mono {Post' : V → Sto → Prop} (h : EV c env e σ Post) (k : ∀ a σ, Post a σ → Post' a σ) : EV c env e σ Post' := fun hid z s H E =>
  wpAny_mono (h hid z s H E) (fun v s' hPat => by obtain ⟨z', W, σ', a, b, d, e, f⟩ := hPat; exact ⟨z', W, σ', a, b, d, e, k _ _ f⟩) fun _ _ e => e
theorem EV.weaken {σ₂ : Sto} (hl : Le σ₂ σ) (h : EV c env e σ₂ Post) : EV c env e σ Post := fun hid z s H E => h hid z s (H.weaken hl) E
/-- one expression behind another -/
theorem EV.go {k : Value → Shared → Prop} (h : EV c env e σ Post) (H : At c hid z env σ s)
    (hk : ∀ z' V σ' v s₁, Sub z z' → At c hid z' env σ' s₁ → VR (PP c.base z') V v → Same s s₁ → Post V σ' → k v s₁) : wpAny c.M c.A (eval e env) k E s :=
  wpAny_mono (h hid z s H E) (fun v s₁ hPat => by obtain ⟨z', W, σ', a, b, d, sm, f⟩ := hPat; exact hk z' W σ' v s₁ a b d sm f) fun _ _ e => e
theorem EV.int {i : Int} {k : Nat} (h : Post (.int i) σ) : EV c env (.Constant (.int i) k pos) σ Post := fun hid z s H E => wpAny_Constant_int (EP.int H h)
theorem EV.str {i : Str} {k : Nat} (h : Post (.str i) σ) : EV c env (.Constant (.str i) k pos) σ Post := fun hid z s H E => wpAny_Constant_str (EP.str H h)
theorem EV.bool {i : Bool} {k : Nat} (h : Post (.bool i) σ) : EV c env (.Constant (.bool i) k pos) σ Post := fun hid z s H E => wpAny_Constant_bool (EP.bool H h)
/-- a name is read -/
theorem Src.load {m : Pin} {all : List (Addr × Obj)} {Q : Value → Shared → Prop} (S : Src c env m all x v) (hk : env.scope.kind = .function) (F : Fr m.g c.L s.heap m.m) (N : News m.g c.L s.heap all)
    (h : Q v s) (h1 : (x == ("__debug__" : Str)) = false) (h2 : (x == ("__classdict__" : Str)) = false) : wpAny c.M c.A (eval (.Name x pos) env) Q E s := by
  refine wpAny_Name ?_ h1
  rcases S with ⟨k, ⟨a, b⟩ | ⟨oC, m₂, a, b, d⟩⟩ | ⟨k, cd, o, a, b, d⟩
  · exact wpAny_loadName_local hk k (a ▸ F.ns) b h
  · exact wpAny_loadName_local hk k (b.ns (N _ a).1) d h
  · rcases k with k | k
    · exact wpAny_loadName_cell hk k a ⟨o, (N _ b).1, d⟩ h
    · exact wpAny_loadName_free hk k a ⟨o, (N _ b).1, d⟩ h h2
theorem EV.name {W : V} (hx : sget σ x = some (.frz W)) (h : Post W σ) (h1 : (x == ("__debug__" : Str)) = false := by decide) (h2 : (x == ("__classdict__" : Str)) = false := by decide) : EV c env (.Name x pos) σ Post := fun hid z s H E => by
  obtain ⟨m, own, X⟩ := id H
  obtain ⟨F, N, S1, S2, k, V, U, C⟩ := id X
  obtain ⟨v, hs, hv⟩ := V x _ hx
  exact hs.load k.kind F N ⟨z, W, σ, fun _ h => h, H, hv, ⟨rfl, rfl, rfl⟩, h⟩ h1 h2
theorem EV.nameOwn {b : Addr} {xs : List V} (hx : sget σ x = some (.own b xs)) (h : Post (.lst xs) (sput σ x (.frz (.lst xs)))) (h1 : (x == ("__debug__" : Str)) = false := by decide) (h2 : (x == ("__classdict__" : Str)) = false := by decide) :
    EV c env (.Name x pos) σ Post := fun hid z s H E => by
  obtain ⟨z', hz, H'⟩ := H.freeze hx
  exact wpAny_mono (EV.name (c := c) (pos := pos) (Post := fun V σ' => Post V σ' ) (sget_sput_same _ _ _) h h1 h2 hid z' s H' E) (fun v s' x => EP.from x hz ⟨rfl, rfl, rfl⟩) fun _ _ e => e

noncomputable def BinOk (c : Cx) (op : Operator) (a b : V) (P : V → Prop) : Prop :=
  ∀ env σ hid z s va vb, At c hid z env σ s → VR (PP c.base z) a va → VR (PP c.base z) b vb → ∀ E, wpAny c.M c.A (binaryOp op va vb) (EP c hid z env s (fun V σ' => P V ∧ σ' = σ)) E s
theorem EV.binop {p : Pos} (h : EV c env l σ fun a σ₁ => EV c env r σ₁ fun b σ₂ => BinOk c op a b fun V => Post V σ₂) : EV c env (.BinOp l op r p) σ Post := fun hid z s H E => by
  refine wpAny_BinOp (h.go H fun z₁ a σ₁ va s₁ hz₁ H₁ ha sm₁ h₁ => h₁.go H₁ fun z₂ b σ₂ vb s₂ hz₂ H₂ hb sm₂ h₂ => ?_)
  exact wpAny_mono (h₂ env σ₂ hid z₂ s₂ va vb H₂ (ha.mono (PP.mono hz₂)) hb E) (fun v s' hPat => by obtain ⟨z', W, σ', a, b, d, e, f, g⟩ := hPat; exact ⟨z', W, σ', fun p hp => a p (hz₂ p (hz₁ p hp)), b, d, sm₁.trans (sm₂.trans e), g ▸ f⟩) fun _ _ e => e
section
variable {i j : Int}
theorem BinOk.ofInt {f : Int} (h : P (.int f))
    (k : ∀ (s : Shared) (t u : Tok) (Q : Value → Shared → Prop) (E : Value → Shared → Prop), Q (.int f s.toks) { s with toks := s.toks + 1 } → wpAny c.M c.A (binaryOp op (.int i t) (.int j u)) Q E s) : BinOk c op (.int i) (.int j) P := by
  intro env σ hid z s va vb H ha hb E
  unfold VR at ha hb
  obtain ⟨t, rfl⟩ := ha
  obtain ⟨u, rfl⟩ := hb
  exact k s t u _ _ (EP.int H ⟨h, rfl⟩)
theorem BinOk.add (h : P (.int (i + j))) : BinOk c .Add (.int i) (.int j) P := .ofInt h fun _ _ _ _ _ => add_int
theorem BinOk.sub (h : P (.int (i - j))) : BinOk c .Sub (.int i) (.int j) P := .ofInt h fun _ _ _ _ _ => sub_int
theorem BinOk.mod (hj : j ≠ 0) (h : P (.int (i.fmod j))) : BinOk c .Mod (.int i) (.int j) P := .ofInt h fun _ _ _ _ _ => mod_int' hj
theorem BinOk.rsh (hj : 0 ≤ j) (h : P (.int (i.fdiv (2 ^ j.toNat)))) : BinOk c .RShift (.int i) (.int j) P := .ofInt h fun _ _ _ _ _ => rshift_int hj
theorem BinOk.and_ (h : P (.int (Builtin.bitAnd i j))) : BinOk c .BitAnd (.int i) (.int j) P := .ofInt h fun _ _ _ _ _ => and_int
theorem BinOk.mul (hm : IntMulOk i j) (h : P (.int (i * j))) : BinOk c .Mult (.int i) (.int j) P := .ofInt h fun _ _ _ _ _ k => PySem.P.mul_int k hm
theorem BinOk.pow (hn : 0 ≤ j) (hsz : (Builtin.Int.intBits i : Int) * j ≤ 2 ^ 27) (h : P (.int (i ^ j.toNat))) : BinOk c .Pow (.int i) (.int j) P := .ofInt h fun _ _ _ _ _ => pow_int hn hsz
theorem BinOk.lsh (hn : 0 ≤ j) (hn2 : j ≤ 1000000) (ha : i.natAbs < 2 ^ 64) (h : P (.int (i * 2 ^ j.toNat))) : BinOk c .LShift (.int i) (.int j) P := .ofInt h fun _ _ _ _ _ => lshift_int_small hn hn2 ha
theorem BinOk.fdiv (hj : j ≠ 0) (hp : Builtin.divisionGoesByPylong i j = false) (h : P (.int (i.fdiv j))) : BinOk c .FloorDiv (.int i) (.int j) P := .ofInt h fun _ _ _ _ _ k => floordiv_int hj k (.inl hp)
end
/-- a test's walk -/
inductive TP (c : Cx) (hid z : List (Addr × Obj)) (env : Env) (s : Shared) (Post : Bool → Sto → Prop) (b : Bool) (s' : Shared) : Prop
  | mk (z' : List (Addr × Obj)) (σ' : Sto) (h1 : Sub z z') (h2 : At c hid z' env σ' s') (h3 : Same s s') (h4 : Post b σ')
noncomputable def TV (c : Cx) (env : Env) (e : Expr) (σ : Sto) (Post : Bool → Sto → Prop) : Prop :=
  ∀ hid z s, At c hid z env σ s → ∀ E, wpAny c.M c.A (isTrue e env (eval e env)) (TP c hid z env s Post) E s
noncomputable def CmpOk (c : Cx) (op : CmpOp) (a b : V) (P : Bool → Prop) : Prop :=
  ∀ env σ hid z s va vb, At c hid z env σ s → VR (PP c.base z) a va → VR (PP c.base z) b vb → ∀ E, wpAny c.M c.A (compareOp op va vb) (EP c hid z env s (fun V σ' => (∃ b, V = .bool b ∧ P b) ∧ σ' = σ)) E s
section
variable {i j : Int} {B : Bool → Prop}
theorem CmpOk.ofInt {f : Bool} (h : B f)
    (k : ∀ (s : Shared) (t u : Tok) (Q : Value → Shared → Prop) (E : Value → Shared → Prop), Q (.bool f) s → wpAny c.M c.A (compareOp cop (.int i t) (.int j u)) Q E s) : CmpOk c cop (.int i) (.int j) B := by
  intro env σ hid z s va vb H ha hb E
  unfold VR at ha hb
  obtain ⟨t, rfl⟩ := ha
  obtain ⟨u, rfl⟩ := hb
  exact k s t u _ _ (EP.bool H ⟨⟨f, rfl, h⟩, rfl⟩)
theorem CmpOk.eq (h : B (i == j)) : CmpOk c .Eq (.int i) (.int j) B := .ofInt h fun _ _ _ _ _ => eq_int
theorem CmpOk.ne (h : B (i != j)) : CmpOk c .NotEq (.int i) (.int j) B := .ofInt h fun _ _ _ _ _ => ne_int
theorem CmpOk.lt (h : B (decide (i < j))) : CmpOk c .Lt (.int i) (.int j) B := .ofInt h fun _ _ _ _ _ => lt_int
theorem CmpOk.le (h : B (decide (i ≤ j))) : CmpOk c .LtE (.int i) (.int j) B := .ofInt h fun _ _ _ _ _ => PySem.P.le_int
end
theorem EV.cmp {p : Pos} (h : EV c env l σ fun a σ₁ => EV c env r σ₁ fun b σ₂ => CmpOk c cop a b fun t => Post (.bool t) σ₂) (hm : behindInMarks cop r = false := by with_unfolding_all rfl) : EV c env (.Compare l [cop] [r] p) σ Post := fun hid z s H E => by
  refine wpAny_Compare1 (h.go H fun z₁ a σ₁ va s₁ hz₁ H₁ ha sm₁ h₁ => h₁.go H₁ fun z₂ b σ₂ vb s₂ hz₂ H₂ hb sm₂ h₂ => ?_) hm
  exact wpAny_mono (h₂ env σ₂ hid z₂ s₂ va vb H₂ (ha.mono (PP.mono hz₂)) hb E) (fun v s' hPat => by obtain ⟨z', W, σ', a, b, d, e, ⟨t, f, k⟩, g⟩ := hPat; exact ⟨z', W, σ', fun p hp => a p (hz₂ p (hz₁ p hp)), b, d, sm₁.trans (sm₂.trans e), by subst f g; exact k⟩) fun _ _ e => e
theorem TV.cmp {T : Bool → Sto → Prop} {p : Pos} (h : EV c env l σ fun a σ₁ => EV c env r σ₁ fun b σ₂ => CmpOk c cop a b fun t => T t σ₂) (hm : behindInMarks cop r = false := by with_unfolding_all rfl) : TV c env (.Compare l [cop] [r] p) σ T := fun hid z s H E => by
  refine wpAny_isTrue_Compare1 ?_ hm
  refine wpAny_mono (h hid z s H E) (fun va s₁ hPat => ?_) fun _ _ e => e
  obtain ⟨z₁, a, σ₁, hz₁, H₁, ha, sm₁, h₁⟩ := hPat
  refine wpAny_mono (h₁ hid z₁ s₁ H₁ E) (fun vb s₂ hPat => ?_) fun _ _ e => e
  obtain ⟨z₂, b, σ₂, hz₂, H₂, hb, sm₂, h₂⟩ := hPat
  refine wpAny_mono (h₂ env σ₂ hid z₂ s₂ va vb H₂ (ha.mono (PP.mono hz₂)) hb E) (fun v s' hPat => ?_) fun _ _ e => e
  obtain ⟨z', W, σ', a, b, d, e, ⟨t, f, k⟩, g⟩ := hPat
  subst f g
  unfold VR at d
  subst d
  exact wpAny_truthy_bool ⟨z', _, fun p hp => a p (hz₂ p (hz₁ p hp)), b, sm₁.trans (sm₂.trans e), k⟩
theorem TV.int {T : Bool → Sto → Prop} (h : EV c env e σ fun a σ₁ => ∃ i, a = .int i ∧ T (i != 0) σ₁) (he : isTrue e env (eval e env) = (do let v ← eval e env; standAt e.pos; holding [v] (truthy v)) := by rfl) : TV c env e σ T := fun hid z s H E => by
  refine isTrue_plain ?_ he
  refine wpAny_mono (h hid z s H E) (fun va s₁ hPat => ?_) fun _ _ e => e
  obtain ⟨z₁, a, σ₁, hz₁, H₁, ha, sm₁, i, e, h₁⟩ := hPat
  subst e
  unfold VR at ha
  obtain ⟨t, rfl⟩ := ha
  exact truthy_int ⟨z₁, σ₁, hz₁, H₁, sm₁, h₁⟩
theorem TV.and_ {T : Bool → Sto → Prop} {a b : Expr} (h : TV c env a σ fun t σ₁ => if t then TV c env b σ₁ T else T false σ₁) : TV c env (.BoolOp .And [a, b] pos) σ T := fun hid z s H E => by
  refine isTrue_and (wpAny_mono (h hid z s H E) (fun t s₁ hPat => ?_) fun _ _ e => e)
  obtain ⟨z₁, σ₁, hz₁, H₁, sm₁, h₁⟩ := hPat
  cases t with
  | false => exact ⟨z₁, σ₁, hz₁, H₁, sm₁, by simpa using h₁⟩
  | true =>
    simp only [if_true] at h₁ ⊢
    refine isTrue_and (wpAny_mono (h₁ hid z₁ s₁ H₁ E) (fun t s₂ hPat => ?_) fun _ _ e => e)
    obtain ⟨z₂, σ₂, hz₂, H₂, sm₂, h₂⟩ := hPat
    have fin := (⟨z₂, σ₂, fun p hp => hz₂ p (hz₁ p hp), H₂, sm₁.trans sm₂, h₂⟩ : TP c hid z env s T t s₂)
    cases t with
    | false => exact fin
    | true => exact isTrue_and_nil fin
theorem TV.or_ {T : Bool → Sto → Prop} {a b : Expr} (h : TV c env a σ fun t σ₁ => if t then T true σ₁ else TV c env b σ₁ T) : TV c env (.BoolOp .Or [a, b] pos) σ T := fun hid z s H E => by
  refine isTrue_or (wpAny_mono (h hid z s H E) (fun t s₁ hPat => ?_) fun _ _ e => e)
  obtain ⟨z₁, σ₁, hz₁, H₁, sm₁, h₁⟩ := hPat
  cases t with
  | true => exact ⟨z₁, σ₁, hz₁, H₁, sm₁, by simpa using h₁⟩
  | false =>
    simp only [Bool.false_eq_true, if_false] at h₁ ⊢
    refine isTrue_or (wpAny_mono (h₁ hid z₁ s₁ H₁ E) (fun t s₂ hPat => ?_) fun _ _ e => e)
    obtain ⟨z₂, σ₂, hz₂, H₂, sm₂, h₂⟩ := hPat
    have fin := (⟨z₂, σ₂, fun p hp => hz₂ p (hz₁ p hp), H₂, sm₁.trans sm₂, h₂⟩ : TP c hid z env s T t s₂)
    cases t with
    | true => exact fin
    | false => exact isTrue_or_nil fin
theorem EV.ifexp {t bo el : Expr} (h : TV c env t σ fun q σ₁ => if q then EV c env bo σ₁ Post else EV c env el σ₁ Post) : EV c env (.IfExp t bo el pos) σ Post := fun hid z s H E => by
  refine IfExp_ (wpAny_mono (h hid z s H E) (fun q s₁ hPat => ?_) fun _ _ e => e)
  obtain ⟨z₁, σ₁, hz₁, H₁, sm₁, h₁⟩ := hPat
  cases q with
  | true => exact wpAny_mono (h₁ hid z₁ s₁ H₁ E) (fun v s' x => EP.from x hz₁ sm₁) fun _ _ e => e
  | false => exact wpAny_mono ((by simpa using h₁ : EV c env el σ₁ Post) hid z₁ s₁ H₁ E) (fun v s' x => EP.from x hz₁ sm₁) fun _ _ e => e
end
end
section
open PySem PySem.W PySem.Spec PySem.Calls PyProof.Rows

section
variable {c : Cx} {env : Env} {z z' hid : List (Addr × Obj)} {σ σ' : Sto} {s s' s₁ : Shared} {x : Str} {v : Value} {E : Value → Shared → Prop} {e l r : Expr} {es : List Expr} {pos p p' : Pos} {Post : V → Sto → Prop} {P : V → Prop} {Ps : List V → Sto → Prop} {args : List V} {rv : V} {f : Addr} {n : Nat}
inductive VP (c : Cx) (hid z : List (Addr × Obj)) (env : Env) (s : Shared) (Post : List V → Sto → Prop) (vs : List Value) (s' : Shared) : Prop
  | mk (z' : List (Addr × Obj)) (W : List V) (σ' : Sto) (h1 : Sub z z') (h2 : At c hid z' env σ' s') (h3 : VRs (PP c.base z') W vs) (h4 : Same s s') (h5 : Post W σ')
noncomputable def EVs (c : Cx) (env : Env) (es : List Expr) (σ : Sto) (Post : List V → Sto → Prop) : Prop :=
  ∀ hid z s, At c hid z env σ s → ∀ pos E, wpAny c.M c.A (spliced (backTo pos (starEach es env))) (VP c hid z env s Post) E s
theorem EVs.nil (h : Ps [] σ) : EVs c env [] σ Ps := fun hid z s H pos E => spliced_none ⟨z, [], σ, fun _ h => h, H, VRs.nil, ⟨rfl, rfl, rfl⟩, h⟩
theorem EVs.cons (h : EV c env e σ fun V σ₁ => EVs c env es σ₁ fun W σ₂ => Ps (V :: W) σ₂) (he : starEach (e :: es) env = (false, eval e env) :: starEach es env := by rfl) : EVs c env (e :: es) σ Ps := fun hid z s H pos E => by
  refine spliced_more (h.go H fun z₁ a σ₁ va s₁ hz₁ H₁ ha sm₁ h₁ => ?_) he
  exact wpAny_mono (h₁ hid z₁ s₁ H₁ pos E) (fun vs s₂ hPat => by obtain ⟨z₂, W, σ₂, hz₂, H₂, hv, sm₂, h₂⟩ := hPat; exact ⟨z₂, a :: W, σ₂, fun p hp => hz₂ p (hz₁ p hp), H₂, VRs.cons (ha.mono (PP.mono hz₂)) hv, sm₁.trans sm₂, h₂⟩) fun _ _ e => e
theorem EVs.go {k : List Value → Shared → Prop} (h : EVs c env es σ Ps) (H : At c hid z env σ s)
    (hk : ∀ z' W σ' vs s₁, Sub z z' → At c hid z' env σ' s₁ → VRs (PP c.base z') W vs → Same s s₁ → Ps W σ' → k vs s₁) : wpAny c.M c.A (spliced (backTo pos (starEach es env))) k E s :=
  wpAny_mono (h hid z s H pos E) (fun v s₁ hPat => by obtain ⟨z', W, σ', a, b, d, sm, f⟩ := hPat; exact hk z' W σ' v s₁ a b d sm f) fun _ _ e => e
/-- a call's answer -/
noncomputable def CallOk (c : Cx) (f : Value) (args : List V) (P : V → Prop) : Prop :=
  ∀ env σ hid z s vs, At c hid z env σ s → VRs (PP c.base z) args vs → ∀ E, wpAny c.M c.A (call f vs) (EP c hid z env s (fun V σ' => P V ∧ σ' = σ)) E s
/-- what a def gives back: its contract -/
inductive FP (c : Cx) (hid z : List (Addr × Obj)) (m : Pin) (s : Shared) (rv : V) (v : Value) (s' : Shared) : Prop
  | mk (z' tb' : List (Addr × Obj)) (h1 : Sub z z') (h2 : Fr m.g c.L s'.heap m.m) (h3 : News m.g c.L s'.heap (tb' ++ (z' ++ hid))) (h4 : Sep tb' (z' ++ hid)) (h5 : Sep z' hid) (h6 : Tb c.keep z' tb') (h7 : VR (PP c.base z') rv v) (h8 : Same s s')
noncomputable def Fn (f : Addr) (n : Nat) (args : List V) (rv : V) : Prop :=
  ∀ (c : Cx), c.Ok n → ∀ hid z tb s (m : Pin) vs, GOk c m.g → Fr m.g c.L s.heap m.m → News m.g c.L s.heap (tb ++ (z ++ hid)) → Sep tb (z ++ hid) → Sep z hid → Tb c.keep z tb → VRs (PP c.base z) args vs → ∀ E,
    wpAny c.M c.A (call (.ref f) vs) (FP c hid z m s rv) E s
theorem Cx.Ok.le {k : Nat} (h : c.Ok n) (hk : k ≤ n) : c.Ok k := ⟨h.kin, h.top, h.code1, h.code2, h.fn, by have := h.room; lia, by have := h.units; lia⟩
theorem Fn.callOk (h : Fn f n args rv) (ok : c.Ok n) (hp : P rv) : CallOk c (.ref f) args P := fun env σ hid z s vs H hv E => by
  obtain ⟨m, own, X⟩ := H
  obtain ⟨F, N, S1, S2, k, V, U, C⟩ := id X
  have nt : ∀ {p}, p ∈ own → NT p → p ∈ restOf own := fun hp hn => mem_rest hp (C.2.nt N hp hn)
  have ofR : ∀ {p}, p ∈ restOf own → p ∈ own := fun h => (List.mem_filter.mp h).1
  have ofT : ∀ {p}, p ∈ tabsOf own → p ∈ own := fun h => (List.mem_filter.mp h).1
  have perm : ∀ q, q ∈ tabsOf own ++ (z ++ (restOf own ++ hid)) → q ∈ own ++ (z ++ hid) := fun q hq => by
    simp only [List.mem_append] at hq ⊢
    rcases hq with h | h | h | h
    · exact .inl (ofT h)
    · exact .inr (.inl h)
    · exact .inl (ofR h)
    · exact .inr (.inr h)
  refine wpAny_mono (h c ok (restOf own ++ hid) z (tabsOf own) s m vs k.gok F (fun q hq => N q (perm q hq)) (fun q hq r hr => ?_) (fun q hq r hr => ?_) C.2.tabs hv E) (fun v s' ⟨z', tb', hz, F', N', S1', S2', tb, hr, sm⟩ => ?_) fun _ _ e => e
  · rcases List.mem_append.mp hr with hr | hr
    · exact S1 q (ofT hq) r (List.mem_append_left _ hr)
    · rcases List.mem_append.mp hr with hr | hr
      · exact tab_ne (List.mem_filter.mp hq).2 (by have := (List.mem_filter.mp hr).2; simpa using this)
      · exact S1 q (ofT hq) r (List.mem_append_right _ hr)
  · rcases List.mem_append.mp hr with hr | hr
    · exact Ne.symm (S1 r (ofR hr) q (List.mem_append_left _ hq))
    · exact S2 q hq r hr
  · have perm' : ∀ q, q ∈ (tb' ++ restOf own) ++ (z' ++ hid) → q ∈ tb' ++ (z' ++ (restOf own ++ hid)) := fun q => by simp only [List.mem_append]; grind
    refine ⟨z', rv, σ, hz, ⟨m, tb' ++ restOf own, F', fun q hq => N' q (perm' q hq), fun q hq r hr => ?_, fun q hq r hr => S2' q hq r (List.mem_append_right _ hr), k, fun x l hx => (V x l hx).monoN (fun p hp hn => List.mem_append_right _ (nt hp hn)) hz fun _ h => h, U, fun e => ?_, tb.mono (fun _ h => h) fun _ _ h => List.mem_append_left _ h⟩, hr, sm, hp, rfl⟩
    · rcases List.mem_append.mp hq with hq | hq
      · rcases List.mem_append.mp hr with hr | hr
        · exact S1' q hq r (List.mem_append_left _ hr)
        · exact S1' q hq r (List.mem_append_right _ (List.mem_append_right _ hr))
      · rcases List.mem_append.mp hr with hr | hr
        · exact Ne.symm (S2' r hr q (List.mem_append_left _ hq))
        · exact S1 q (ofR hq) r (List.mem_append_right _ hr)
    · refine ⟨fun x cd hx => ?_, (C.1 e).2⟩
      obtain ⟨o, v₀, a, d⟩ := (C.1 e).1 x cd hx
      exact ⟨o, v₀, a.imp (fun a => List.mem_append_right _ (nt a (.cell d))) id, d⟩
theorem At.fr (H : At c hid z env σ s) : ∃ m : Pin, Fr m.g c.L s.heap m.m := by
  obtain ⟨m, own, X⟩ := H
  exact ⟨m, X.x1⟩
theorem At.envOk (H : At c hid z env σ s) : ∃ m, EnvOk c env m := by
  obtain ⟨m, own, X⟩ := H
  exact ⟨m, X.x5⟩
/-- a global def called by its name -/
theorem EV.call (ok : c.Ok n) (hf : nsIn (K c.w.params) mainGlobals x = some (some (.ref f))) (hkeep : keepIn (K c.w.params) (.ref f) = true) (hx : env.kindOf x = some .globalImplicit)
    (h : EVs c env (e :: es) σ fun W σ₁ => CallOk c (.ref f) W fun V => Post V σ₁) (hd : (x == ("__debug__" : Str)) = false := by decide)
    (he : starEach (e :: es) env = (false, eval e env) :: starEach es env := by rfl) (hplain : (backTo pos (starEach es env)).any (·.1) = false := by rfl) :
    EV c env (.Call (.Name x p) (e :: es) [] pos) σ Post := fun hid z s H E => by
  show wpAny _ _ (do callWith pos (← eval (.Name x p) env) [] (backTo pos (starEach (e :: es) env)) (backToKw pos (keywordEach [] env))) _ _ s
  obtain ⟨m, F⟩ := H.fr
  obtain ⟨_, ek⟩ := H.envOk
  refine wpAny_bind (Name_function_global ek.kind hx (loadGlobal_global (mg := c.mg) (ek.globals ▸ ok.top.g.keeps H.base) (mg_of ok.kin ok.top.g hf) ?_) hd)
  refine callWith_K ok.kin hkeep ?_ he hplain
  refine h.go H fun z₁ W σ₁ vs s₁ hz₁ H₁ hv sm₁ h₁ => ?_
  obtain ⟨m₁, F₁⟩ := H₁.fr
  refine ⟨ok.kin.keeps H₁.base, wpAny_mono (h₁ env σ₁ hid z₁ s₁ vs H₁ hv E) (fun v s' hPat => by obtain ⟨z', V, σ', a, b, d, e, f, g⟩ := hPat; exact ⟨z', V, σ', fun p hp => a p (hz₁ p hp), b, d, sm₁.trans e, g ▸ f⟩) fun _ _ e => e⟩
/-- a built-in called by its name -/
theorem EV.callB {id : String} (ok : c.Ok n) (hf : nsIn (K c.w.params) mainGlobals x = some none) (hb : bootBuiltins x = some (.builtin id)) (hx : env.kindOf x = some .globalImplicit)
    (h : EVs c env (e :: es) σ fun W σ₁ => CallOk c (.builtin id) W fun V => Post V σ₁) (hn : x ≠ "__name__") (hd : (x == ("__debug__" : Str)) = false := by decide)
    (he : starEach (e :: es) env = (false, eval e env) :: starEach es env := by rfl) (hplain : (backTo pos (starEach es env)).any (·.1) = false := by rfl) :
    EV c env (.Call (.Name x p) (e :: es) [] pos) σ Post := fun hid z s H E => by
  show wpAny _ _ (do callWith pos (← eval (.Name x p) env) [] (backTo pos (starEach (e :: es) env)) (backToKw pos (keywordEach [] env))) _ _ s
  obtain ⟨m, F⟩ := H.fr
  obtain ⟨_, ek⟩ := H.envOk
  have TR := topRead_of ok.top
  refine wpAny_bind (Name_function_global ek.kind hx (loadGlobal_builtin (mg := c.mg) (mb := c.mb) (ek.globals ▸ TR.g.keeps H.base) (mg_none_of ok.kin TR.g hf) (ek.builtins ▸ TR.b.keeps H.base) ((TR.builtins x hn).trans hb) ?_) hd)
  refine callWith_builtin1 ?_ he hplain
  refine h.go H fun z₁ W σ₁ vs s₁ hz₁ H₁ hv sm₁ h₁ => ?_
  exact wpAny_mono (h₁ env σ₁ hid z₁ s₁ vs H₁ hv E) (fun v s' hPat => by obtain ⟨z', V, σ', a, b, d, e, f, g⟩ := hPat; exact ⟨z', V, σ', fun p hp => a p (hz₁ p hp), b, d, sm₁.trans e, g ▸ f⟩) fun _ _ e => e

/-! ## statements -/
inductive Out where
  | nxt | brk | ret (x : V)
noncomputable def OutR (P : Addr → Obj → Prop) : Out → Flow → Prop
  | .nxt, f => f = .next
  | .brk, f => f = .brk
  | .ret V, f => ∃ v, f = .ret v ∧ VR P V v
inductive SP (c : Cx) (hid z : List (Addr × Obj)) (s : Shared) (Post : Out → Sto → Prop) (fl : Flow) (s' : Shared) : Prop
  | mk (z' : List (Addr × Obj)) (o : Out) (σ' : Sto) (h1 : Sub z z') (h2 : At c hid z' c.env σ' s') (h3 : OutR (PP c.base z') o fl) (h4 : Same s s') (h5 : Post o σ')
noncomputable def S1 (c : Cx) (st : Stmt) (σ : Sto) (Post : Out → Sto → Prop) : Prop := ∀ hid z s, At c hid z c.env σ s → ∀ E, wpAny c.M c.A (exec st c.env) (SP c hid z s Post) E s
noncomputable def ST (c : Cx) (b : List Stmt) (σ : Sto) (Post : Out → Sto → Prop) : Prop := ∀ hid z s, At c hid z c.env σ s → ∀ E, wpAny c.M c.A (execs b c.env) (SP c hid z s Post) E s
variable {Q Q' : Out → Sto → Prop} {st : Stmt} {rest body : List Stmt}
theorem SP.from {fl : Flow} (h : SP c hid z' s₁ Q fl s') (hz : Sub z z') (hs : Same s s₁) : SP c hid z s Q fl s' := by
  obtain ⟨z2, o, σ2, a, b, d, e, f⟩ := h
  exact ⟨z2, o, σ2, fun p hp => a p (hz p hp), b, d, hs.trans e, f⟩
theorem SP.mono {fl : Flow} (h : SP c hid z s Q fl s') (k : ∀ o σ, Q o σ → Q' o σ) : SP c hid z s Q' fl s' := by
  obtain ⟨z2, o, σ2, a, b, d, e, f⟩ := h
  exact ⟨z2, o, σ2, a, b, d, e, k _ _ f⟩
theorem ST.mono (h : ST c body σ Q) (k : ∀ o σ, Q o σ → Q' o σ) : ST c body σ Q' := fun hid z s H E => wpAny_mono (h hid z s H E) (fun _ _ x => x.mono k) fun _ _ e => e
theorem S1.mono (h : S1 c st σ Q) (k : ∀ o σ, Q o σ → Q' o σ) : S1 c st σ Q' := fun hid z s H E => wpAny_mono (h hid z s H E) (fun _ _ x => x.mono k) fun _ _ e => e
theorem ST.weaken {σ₂ : Sto} (h : ST c body σ₂ Q) (hl : Le σ₂ σ) : ST c body σ Q := fun hid z s H E => h hid z s (H.weaken hl) E
theorem S1.weaken {σ₂ : Sto} (h : S1 c st σ₂ Q) (hl : Le σ₂ σ) : S1 c st σ Q := fun hid z s H E => h hid z s (H.weaken hl) E
theorem ST.nil (h : Q .nxt σ) : ST c [] σ Q := fun hid z s H E => wpAny_execs_nil ⟨z, .nxt, σ, fun _ h => h, H, rfl, ⟨rfl, rfl, rfl⟩, h⟩
noncomputable def SQ (c : Cx) (rest : List Stmt) (Q : Out → Sto → Prop) : Out → Sto → Prop
  | .nxt, σ => ST c rest σ Q
  | o, σ => Q o σ
theorem ST.cons (h : S1 c st σ (SQ c rest Q)) : ST c (st :: rest) σ Q := fun hid z s H E => by
  refine wpAny_execs_cons (wpAny_mono (h hid z s H E) (fun fl s₁ hPat => ?_) fun _ _ e => e)
  obtain ⟨z₁, o, σ₁, hz, H₁, ho, sm, k⟩ := hPat
  cases o with
  | nxt => cases ho; exact wpAny_mono (k hid z₁ s₁ H₁ E) (fun _ _ x => x.from hz sm) fun _ _ e => e
  | brk => cases ho; exact ⟨z₁, .brk, σ₁, hz, H₁, rfl, sm, k⟩
  | ret V => obtain ⟨v, rfl, hv⟩ := ho; exact ⟨z₁, .ret V, σ₁, hz, H₁, ⟨v, rfl, hv⟩, sm, k⟩
theorem S1.ret (h : EV c c.env e σ fun V σ₁ => Q (.ret V) σ₁) : S1 c (.Return (some e) pos) σ Q := fun hid z s H E => by
  show wpAny _ _ (do standAt pos; return Flow.ret (← eval e c.env)) _ _ s
  refine wpAny_bind (wpAny_standAt (wpAny_bind (h.go H fun z₁ V σ₁ v s₁ hz H₁ hv sm k => wpAny_pure ?_)))
  exact ⟨z₁, .ret V, σ₁, hz, H₁, ⟨v, rfl, hv⟩, sm, k⟩
theorem S1.brk (h : Q .brk σ) : S1 c (.Break pos) σ Q := fun hid z s H E => by
  show wpAny _ _ (do standAt pos; pure Flow.brk) _ _ s
  exact wpAny_bind (wpAny_standAt (wpAny_pure ⟨z, .brk, σ, fun _ h => h, H, rfl, ⟨rfl, rfl, rfl⟩, h⟩))
theorem S1.if_ {t : Expr} {b o : List Stmt} (h : TV c c.env t σ fun q σ₁ => if q then ST c b σ₁ Q else ST c o σ₁ Q) : S1 c (.If t b o pos) σ Q := fun hid z s H E => by
  show wpAny _ _ (do standAt pos; if ← isTrue t c.env (eval t c.env) then execs b c.env else execs o c.env) _ _ s
  refine wpAny_bind (wpAny_standAt (wpAny_bind (wpAny_mono (h hid z s H E) (fun q s₁ hPat => ?_) fun _ _ e => e)))
  obtain ⟨z₁, σ₁, hz, H₁, sm, k⟩ := hPat
  cases q with
  | true => exact wpAny_mono (k hid z₁ s₁ H₁ E) (fun _ _ x => x.from hz sm) fun _ _ e => e
  | false => exact wpAny_mono ((by simpa using k : ST c o σ₁ Q) hid z₁ s₁ H₁ E) (fun _ _ x => x.from hz sm) fun _ _ e => e
/-- a name takes a value -/
theorem S1.assign (hk : Storable c x) (h : EV c c.env e σ fun V σ₁ => Q .nxt (sput σ₁ x (.frz V))) (hs : swapsWith e (some (.Name x p)) pos.line c.env = pure false := by rfl) : S1 c (.Assign [.Name x p] e pos) σ Q := fun hid z s H E => by
  refine wpAny_Assign_Name (h.go H fun z₁ V σ₁ v s₁ hz H₁ hv sm k => ?_) hs
  exact wpAny_mono (H₁.store hv hk) (fun _ s₂ hPat => by obtain ⟨H₂, sm₂⟩ := hPat; exact ⟨z₁, .nxt, _, hz, H₂, rfl, sm.trans sm₂, k⟩) fun _ _ e => e
theorem S1.assignO (hk : Storable c x) (h : EVO c c.env e σ fun xs σ₁ => ∀ b, Q .nxt (sput σ₁ x (.own b xs))) (hs : swapsWith e (some (.Name x p)) pos.line c.env = pure false := by rfl) : S1 c (.Assign [.Name x p] e pos) σ Q := fun hid z s H E => by
  refine wpAny_Assign_Name (wpAny_mono (h hid z s H E) (fun v s₁ hPat => ?_) fun _ _ e => e) hs
  obtain ⟨z₁, xs, σ₁, b, vs, n, hz, hb, hq, H₁, hv, sm, k⟩ := hPat
  subst hb
  exact wpAny_mono (H₁.storeO hq hv hk) (fun _ s₂ hPat => by obtain ⟨H₂, sm₂⟩ := hPat; exact ⟨z₁, .nxt, _, hz, H₂, rfl, sm.trans sm₂, k b⟩) fun _ _ e => e
theorem EVO.toEV (h : EVO c env e σ fun xs σ₁ => Post (.lst xs) σ₁) : EV c env e σ Post := fun hid z s H E => by
  refine wpAny_mono (h hid z s H E) (fun v s₁ hPat => ?_) fun _ _ e => e
  obtain ⟨z₁, xs, σ₁, b, vs, n, hz, hb, hq, H₁, hv, sm, k⟩ := hPat
  subst hb
  refine ⟨(b, lobj vs n) :: z₁, .lst xs, σ₁, fun p hp => .tail _ (hz p hp), H₁.show_ hq, ?_, sm, k⟩
  unfold VR
  exact ⟨b, vs, n, rfl, .inr (.head _), VRs.mono (PP.mono fun p h => .tail _ h) hv⟩
end
end
section
open PySem PySem.W PySem.Spec PySem.Calls PyProof.Rows

theorem cellsFrom_ge : ∀ (names : List (Str × NameKind)) (n : Nat) (acc : List (Str × Addr)) (x : Str) (cd : Addr), (x, cd) ∈ cellsFrom n names acc → n ≤ cd ∨ (x, cd) ∈ acc
  | [], _, _, _, _, h => .inr h
  | (y, k) :: r, n, acc, x, cd, h => by
    unfold cellsFrom at h
    split at h
    · rcases cellsFrom_ge r (n + 1) _ x cd h with q | q
      · exact .inl (Nat.le_of_succ_le q)
      · rcases List.mem_cons.mp q with e | q
        · cases e; exact .inl (Nat.le_refl _)
        · exact .inr q
    · exact cellsFrom_ge r n acc x cd h
theorem cellsFrom_inj : ∀ (names : List (Str × NameKind)) (n : Nat) (acc : List (Str × Addr)), (∀ p ∈ acc, p.2 < n) → acc.Pairwise (fun p q => p.2 ≠ q.2) → (cellsFrom n names acc).Pairwise (fun p q => p.2 ≠ q.2)
  | [], _, _, _, h => h
  | (y, k) :: r, n, acc, h0, h => by
    unfold cellsFrom
    split
    · refine cellsFrom_inj r (n + 1) _ (fun p hp => ?_) (List.pairwise_cons.mpr ⟨fun p hp => ?_, h⟩)
      · rcases List.mem_cons.mp hp with rfl | hp
        · exact Nat.lt_succ_self _
        · exact Nat.lt_succ_of_lt (h0 p hp)
      · exact Ne.symm (Nat.ne_of_lt (h0 p hp))
    · exact cellsFrom_inj r n acc h0 h
theorem lookup_mem' {α : Type} : ∀ {l : List (Str × α)} {x : Str} {v : α}, l.lookup x = some v → (x, v) ∈ l
  | (y, u) :: r, x, v, h => by
    rw [List.lookup_cons] at h
    cases e : x == y with
    | true => rw [e] at h; cases h; rw [beq_iff_eq.mp e]; exact .head _
    | false => rw [e] at h; exact .tail _ (lookup_mem' h)
theorem pairwise_inj : ∀ {l : List (Str × Addr)}, l.Pairwise (fun p q => p.2 ≠ q.2) → ∀ {x y : Str} {cd : Addr}, (x, cd) ∈ l → (y, cd) ∈ l → x = y
  | p :: r, h, x, y, cd, hx, hy => by
    obtain ⟨h1, h2⟩ := List.pairwise_cons.mp h
    rcases List.mem_cons.mp hx with e1 | hx <;> rcases List.mem_cons.mp hy with e2 | hy
    · rw [← e1] at e2; cases e2; rfl
    · exact absurd (by rw [← e1]) (h1 _ hy)
    · exact absurd (by rw [← e2]) (h1 _ hx)
    · exact pairwise_inj h2 hx hy
theorem CellsAre.get {cm : Str → Option Value} : ∀ {cs : List (Str × Addr)} {cells : List (Addr × Obj)}, CellsAre cm cs cells → ∀ {x : Str} {cd : Addr}, (x, cd) ∈ cs → ∃ o, (cd, o) ∈ cells ∧ o.data = .cell (cm x)
  | _, _, .nil, _, _, h => nomatch h
  | _, _, .cons hd r, x, cd, h => by
    rcases List.mem_cons.mp h with e | h
    · cases e; exact ⟨_, .head _, hd⟩
    · obtain ⟨o, a, b⟩ := CellsAre.get r h; exact ⟨o, .tail _ a, b⟩
theorem CellsAre.adr {cm : Str → Option Value} : ∀ {cs : List (Str × Addr)} {cells : List (Addr × Obj)}, CellsAre cm cs cells → ∀ {p : Addr × Obj}, p ∈ cells → ∃ x, (x, p.1) ∈ cs
  | _, _, .nil, _, h => nomatch h
  | _, _, .cons hd r, p, h => by
    rcases List.mem_cons.mp h with e | h
    · cases e; exact ⟨_, .head _⟩
    · obtain ⟨x, a⟩ := CellsAre.adr r h; exact ⟨x, .tail _ a⟩
theorem bindL_off {ko : Str → Option NameKind} {x : Str} : ∀ (binds : List (Str × Value)) (m : Str → Option Value), x ∉ binds.map (·.1) → bindL ko binds m x = m x
  | [], _, _ => rfl
  | (y, v) :: r, m, h => by
    unfold bindL
    simp only [List.map_cons, List.mem_cons, not_or] at h
    rw [bindL_off r _ h.2]
    split
    · simp [h.1]
    · rfl
theorem bindL_on {ko : Str → Option NameKind} {x : Str} {v : Value} (hk : ko x = some .local) : ∀ (binds : List (Str × Value)) (m : Str → Option Value), (binds.map (·.1)).Nodup → (x, v) ∈ binds → bindL ko binds m x = some v
  | (y, u) :: r, m, hn, h => by
    simp only [List.map_cons, List.nodup_cons] at hn
    unfold bindL
    rcases List.mem_cons.mp h with e | h
    · cases e
      rw [bindL_off r _ hn.1, if_pos hk]; simp
    · exact bindL_on hk r _ hn.2 h
theorem bindC_off {ko : Str → Option NameKind} {x : Str} : ∀ (binds : List (Str × Value)) (m : Str → Option Value), x ∉ binds.map (·.1) → bindC ko binds m x = m x
  | [], _, _ => rfl
  | (y, v) :: r, m, h => by
    unfold bindC
    simp only [List.map_cons, List.mem_cons, not_or] at h
    rw [bindC_off r _ h.2]
    split
    · rfl
    · simp [h.1]
theorem bindC_on {ko : Str → Option NameKind} {x : Str} {v : Value} (hk : ko x ≠ some .local) : ∀ (binds : List (Str × Value)) (m : Str → Option Value), (binds.map (·.1)).Nodup → (x, v) ∈ binds → bindC ko binds m x = some v
  | (y, u) :: r, m, hn, h => by
    simp only [List.map_cons, List.nodup_cons] at hn
    unfold bindC
    rcases List.mem_cons.mp h with e | h
    · cases e
      rw [bindC_off r _ hn.1, if_neg hk]; simp
    · exact bindC_on hk r _ hn.2 h
noncomputable def frzs : List Str → List V → Sto
  | x :: ps, v :: vs => (x, .frz v) :: frzs ps vs
  | _, _ => []
theorem frzs_get {P : Addr → Obj → Prop} : ∀ {ps : List Str} {args : List V} {vs : List Value} {x : Str} {l : LV}, VRs P args vs → vs.length = ps.length → sget (frzs ps args) x = some l → ∃ V v, l = .frz V ∧ (x, v) ∈ ps.zip vs ∧ VR P V v
  | [], _, _, _, _, _, _, h => by simp [frzs, sget] at h
  | y :: ps, [], _, _, _, H, hl, h => by simp [frzs, sget] at h
  | y :: ps, V :: args, _, x, l, H, hl, h => by
    unfold VRs at H
    obtain ⟨v, r, rfl, a, b⟩ := H
    unfold frzs sget at h
    rw [List.lookup_cons] at h
    cases e : x == y with
    | true => rw [e] at h; cases h; rw [beq_iff_eq.mp e]; exact ⟨V, v, rfl, .head _, a⟩
    | false =>
      rw [e] at h
      obtain ⟨V', v', e1, e2, e3⟩ := frzs_get (ps := ps) b (by simpa using hl) h
      exact ⟨V', v', e1, .tail _ e2, e3⟩
theorem zip_fst {α β : Type} : ∀ {ps : List α} {vs : List β}, vs.length = ps.length → (ps.zip vs).map (·.1) = ps
  | [], [], _ => rfl
  | p :: ps, v :: vs, h => by simp [zip_fst (ps := ps) (vs := vs) (by simpa using h)]
/-- a def's contract is shown by its body -/
theorem Fn.intro {f : Addr} {n : Nat} {args : List V} {rv : V} {name qual : Str} {params : Arguments} {body : List Stmt} {scope : Scope} {pm cdv : Value} {ps : List Str}
    (ho : ∀ P, (K P).lookup f = some ⟨.type "function", none, .func (fnOf name qual params body scope .none .none .none pm none cdv .none), #[]⟩) (hcd : ∀ P, codeIn (K P) cdv qual = true)
    (hbind : ∀ vs : List Value, vs.length = ps.length → bindArgs (fnOf name qual params body scope .none .none .none pm none cdv .none) ⟨vs, []⟩ = pure (ps.zip vs))
    (hlen : args.length = ps.length) (hkinds : (ps.all fun y => scope.names.lookup y == some .local || scope.names.lookup y == some .cell) = true) (hnp : ps.Nodup)
    (hnd : ((cellsFrom 0 scope.names []).map (·.1)).Nodup) (hco : scope.isCoroutine = false) (hgen : scope.isGenerator = false) (hk : scope.kind = .function)
    (h : ∀ c : Cx, c.pin = none → c.cn = qual ∧ c.ccd = cdv → c.cs = scope → (∃ k, c.cl = cellsFrom k scope.names []) → c.keep = [] → c.Ok n → ST c body (frzs ps args) fun o _ => o = .ret rv) : Fn f (n + 1) args rv := by
  intro c ok hid z tb s m vs G F N ST S T hv E
  have hl : vs.length = ps.length := by rw [hv.len, hlen]
  refine wpAny_call ?_
  refine code_defC G.below F (ok.kin.keeps G.below.stays) N (ok.top.keeps G.below.stays) rfl rfl ok.fn (ho _) (hcd _) (by have := ok.room; show c.dp < _; lia) (BindsTo.of_eq (hbind vs hl)) ?_ hnd ?_ hco hgen hk
  · rw [List.all_eq_true] at hkinds ⊢
    intro y hy
    have : y.1 ∈ ps := by rw [← zip_fst hl]; exact List.mem_map_of_mem hy
    exact hkinds _ this
  intro g L' h₁ tk cells FG F' N' Y B' X' T' hlt
  rw [← List.append_assoc] at N'
  let c' : Cx := { c with dp := c.dp + 1, un := c.un + 3, cn := qual, cs := scope, a := f, ccd := cdv, cl := cellsFrom (L' + 1) scope.names [], outer := c.env :: c.outer, A₀ := c.A, h₀ := g, L := L', pin := none, still := true, keep := [] }
  have ok' : c'.Ok n := ⟨ok.kin, ok.top, ok.code1, ok.code2, hk, by have := ok.room; show c.dp + 1 + n < _; lia, by have := ok.units; show c.un + 3 + 8 * n + 8 < _; lia⟩
  have G' : GOk c' g := ⟨KtsTurn.refl, B', fun b hb => by
    have hb' : b ∈ c.L :: c.fs := hb
    rcases List.mem_cons.mp hb' with rfl | hb'
    · obtain ⟨o, es, ep, e, hd, _⟩ := FG.ns
      exact ⟨o, es, ep, e, hd⟩
    · obtain ⟨o, es, n, e, hd⟩ := G.dicts b hb'
      exact ⟨o, es, n, FG.keep _ _ e, hd⟩, fun _ => rfl⟩
  have hge : ∀ {p : Addr × Obj}, p ∈ cells → L' < p.1 := fun {p} hp => by
    obtain ⟨x, hx⟩ := CellsAre.adr Y hp
    rcases cellsFrom_ge scope.names (L' + 1) [] x p.1 hx with q | q
    · exact q
    · exact nomatch q
  have hinj := cellsFrom_inj scope.names (L' + 1) [] (fun p hp => nomatch hp) .nil
  have H' : At c' hid z c'.env (frzs ps args) { s with heap := h₁, toks := tk } := by
    refine ⟨⟨_, g⟩, cells ++ tb, F', N', fun p hp q hq => ?_, S, ⟨G', hk, rfl, rfl, fun _ e => nomatch e⟩, fun x l hx => ?_, fun x y b xs ys hx _ => ?_, fun _ => ⟨fun x cd hx => ?_, fun x y cd hx hy => pairwise_inj hinj (lookup_mem' hx) (lookup_mem' hy), fun y q us hy => by obtain ⟨V, v, e, _⟩ := frzs_get hv hl hy; cases e⟩, (T.mono (fun _ h => h) fun _ _ h => List.mem_append_right _ h).keep fun _ h => nomatch h⟩
    · rcases List.mem_append.mp hp with hp | hp
      · have h1 := hge hp
        have h2 := hlt q (List.mem_append_right _ hq)
        exact Ne.symm (Nat.ne_of_lt (Nat.lt_trans h2 h1))
      · exact ST p hp q hq
    · obtain ⟨V, v, rfl, hm, hr⟩ := frzs_get hv hl hx
      refine ⟨v, ?_, hr⟩
      have hxp : x ∈ ps := by rw [← zip_fst hl]; exact List.mem_map_of_mem hm
      have hkx := List.all_eq_true.mp hkinds x hxp
      rw [Bool.or_eq_true, beq_iff_eq, beq_iff_eq] at hkx
      have hnz : ((ps.zip vs).map (·.1)).Nodup := by rw [zip_fst hl]; exact hnp
      rcases hkx with hkx | hkx
      · exact .inl ⟨hkx, .inl ⟨rfl, bindL_on hkx _ _ hnz hm⟩⟩
      · have hsm : ((cellsFrom (L' + 1) scope.names []).lookup x).isSome = true := cellsFrom_some scope.names (L' + 1) [] (.inl hkx)
        obtain ⟨cd, hcx⟩ := Option.isSome_iff_exists.mp hsm
        obtain ⟨o, ho', hd⟩ := CellsAre.get Y (lookup_mem' hcx)
        refine .inr ⟨.inl hkx, cd, o, hcx, List.mem_append_left _ (List.mem_append_left _ ho'), ?_⟩
        rw [hd, bindC_on (v := v) (fun e => by rw [show (envOfC qual scope L' f cdv).kindOf x = some .cell from hkx] at e; cases e) _ _ hnz hm]
    · obtain ⟨V, v, e, _⟩ := frzs_get hv hl hx
      cases e
    · obtain ⟨o, ho', hd⟩ := CellsAre.get Y (lookup_mem' hx)
      exact ⟨o, _, .inl (List.mem_append_left _ ho'), hd⟩
  refine wpAny_mono (h c' rfl ⟨rfl, rfl⟩ rfl ⟨_, rfl⟩ rfl ok' hid z _ H' _) (fun fl s' hPat => ?_) fun _ _ e => e
  obtain ⟨z', o, σ', hz, H2, hor, sm, hp⟩ := hPat
  subst hp
  obtain ⟨v, rfl, hv'⟩ := hor
  obtain ⟨m', own', F2, N2, S12, S22, k2, _, _, _, T2⟩ := H2
  have eg : m'.g = g := k2.gok.same rfl
  rw [eg] at F2 N2
  have ofT : ∀ {p}, p ∈ tabsOf own' → p ∈ own' := fun h => (List.mem_filter.mp h).1
  refine ⟨L', m'.m, _, F2, N2, fun F3 N3 => ⟨z', tabsOf own', hz, F3, fun p hp => N3 p ?_, fun p hp q hq => S12 p (ofT hp) q hq, S22, T2.tabs.keep fun p hp => hz p (T.kept p hp), hv', sm⟩⟩
  rcases List.mem_append.mp hp with hp | hp
  · exact List.mem_append_left _ (ofT hp)
  · exact List.mem_append_right _ hp
end
section
open PySem PySem.W PySem.Spec PySem.Calls PyProof.Rows

section
variable {c : Cx} {env : Env} {z z' hid : List (Addr × Obj)} {σ σ' : Sto} {s s' s₁ : Shared} {x : Str} {v : Value} {E : Value → Shared → Prop} {e l r : Expr} {es : List Expr} {pos p p' : Pos} {Post : V → Sto → Prop} {P : V → Prop} {Ps : List V → Sto → Prop} {args : List V} {f : Addr} {n : Nat} {B : Bool → Prop} {Q : Out → Sto → Prop}
theorem At.get {a : Addr} {o : Obj} (H : At c hid z env σ s) (h : PP c.base z a o) : s.heap.get? a = some o := by
  obtain ⟨m, own, F, N, S1, S2, k, _⟩ := H
  rcases h with h | h
  · exact F.keep _ _ (k.stays _ _ h)
  · exact (N _ (List.mem_append_right _ (List.mem_append_left _ h))).1
theorem isL {h : Heap} {a : Addr} {vs : List Value} {n : Nat} (e : h.get? a = some (lobj vs n)) : h.IsList a vs.toArray := ⟨_, e, rfl, n, rfl⟩
theorem isT {h : Heap} {a : Addr} {vs : List Value} {n : Nat} (e : h.get? a = some (tobj vs n)) : IsTup h a vs.toArray := ⟨_, e, rfl, n, rfl⟩
/-- what stands behind a name that holds a list -/
inductive Holds (σ : Sto) (x : Str) : List V → Prop
  | frz {xs} : sget σ x = some (.frz (.lst xs)) → Holds σ x xs
  | own {b xs} : sget σ x = some (.own b xs) → Holds σ x xs
  | brw {b xs} : sget σ x = some (.brw b xs) → Holds σ x xs
theorem At.peek {xs : List V} (H : At c hid z env σ s) (hx : Holds σ x xs) (h1 : (x == ("__debug__" : Str)) = false := by decide) (h2 : (x == ("__classdict__" : Str)) = false := by decide) :
    ∃ a vs n, (∀ (Q : Value → Shared → Prop) (pos : Pos) (E : Value → Shared → Prop), Q (.ref a) s → wpAny c.M c.A (eval (.Name x pos) env) Q E s) ∧ s.heap.get? a = some (lobj vs n) ∧ VRs (PP c.base z) xs vs ∧
      ((∃ b, sget σ x = some (.own b xs) ∧ a = b) ∨ (∃ b, sget σ x = some (.brw b xs) ∧ a = b) ∨ (sget σ x = some (.frz (.lst xs)) ∧ PP c.base z a (lobj vs n))) := by
  have H0 := H
  obtain ⟨m, own, F, N, S1, S2, k, V, U, C⟩ := H
  cases hx with
  | frz hx =>
    obtain ⟨v, hs, hv⟩ := V x _ hx
    unfold VR at hv
    obtain ⟨a, vs, n, rfl, hp, hr⟩ := hv
    exact ⟨a, vs, n, fun Q pos E h => hs.load k.kind F N h h1 h2, H0.get hp, hr, .inr (.inr ⟨hx, hp⟩)⟩
  | @own b xs hx =>
    obtain ⟨hs, vs, n, hm, hr⟩ := V x _ hx
    exact ⟨b, vs, n, fun Q pos E h => hs.load k.kind F N h h1 h2, (N _ (List.mem_append_left _ hm)).1, hr, .inl ⟨b, hx, rfl⟩⟩
  | @brw b xs hx =>
    obtain ⟨hs, vs, n, hm, hr⟩ := V x _ hx
    exact ⟨b, vs, n, fun Q pos E h => hs.load k.kind F N h h1 h2, (N _ (List.mem_append_right _ hm)).1, hr, .inr (.inl ⟨b, hx, rfl⟩)⟩
/-- the same list, later -/
theorem At.still {a : Addr} {xs : List V} {vs : List Value} {n : Nat} (hz : Sub z z') (H' : At c hid z' env σ' s') (hr : VRs (PP c.base z) xs vs)
    (w : (∃ b, sget σ x = some (.own b xs) ∧ a = b) ∨ (∃ b, sget σ x = some (.brw b xs) ∧ a = b) ∨ (sget σ x = some (.frz (.lst xs)) ∧ PP c.base z a (lobj vs n)))
    (same : sget σ' x = sget σ x) : ∃ vs' n', s'.heap.get? a = some (lobj vs' n') ∧ VRs (PP c.base z') xs vs' := by
  have H0 := H'
  obtain ⟨m, own, F, N, S1, S2, k, V, U, C⟩ := H'
  rcases w with ⟨b, hx, rfl⟩ | ⟨b, hx, rfl⟩ | ⟨hx, hp⟩
  · obtain ⟨hs, vs, n, hm, hr⟩ := V x _ (same.trans hx)
    exact ⟨vs, n, (N _ (List.mem_append_left _ hm)).1, hr⟩
  · obtain ⟨hs, vs, n, hm, hr⟩ := V x _ (same.trans hx)
    exact ⟨vs, n, (N _ (List.mem_append_right _ hm)).1, hr⟩
  · exact ⟨vs, n, H0.get (PP.mono hz _ _ hp), VRs.mono (PP.mono hz) hr⟩
theorem CallOk.chr {i : Int} (h0 : 0 ≤ i) (h1 : i ≤ 1114111) (h : P (.str ⟨#[i.toNat]⟩)) : CallOk c (.builtin "chr") [.int i] P := fun env σ hid z s vs H hv E => by
  unfold VRs at hv; obtain ⟨v, r, rfl, hv, hr⟩ := hv
  unfold VRs at hr; subst hr
  unfold VR at hv; obtain ⟨t, rfl⟩ := hv
  exact chr_of_range h0 h1 (EP.str H ⟨h, rfl⟩)
theorem CallOk.ord {k : Nat} (h : P (.int k)) : CallOk c (.builtin "ord") [.str ⟨#[k]⟩] P := fun env σ hid z s vs H hv E => by
  unfold VRs at hv; obtain ⟨v, r, rfl, hv, hr⟩ := hv
  unfold VRs at hr; subst hr
  unfold VR at hv; obtain ⟨t, rfl⟩ := hv
  exact PySem.P.ord_of_char (EP.int H ⟨h, rfl⟩)
theorem CallOk.lenList {xs : List V} (hl : xs.length < 2 ^ 62) (h : P (.int xs.length)) : CallOk c (.builtin "len") [.lst xs] P := fun env σ hid z s vs H hv E => by
  unfold VRs at hv; obtain ⟨v, r, rfl, hv, hr⟩ := hv
  unfold VRs at hr; subst hr
  unfold VR at hv; obtain ⟨a, vs, n, rfl, hp, hr⟩ := hv
  have hlen := hr.len
  refine call_len_list (isL (H.get hp)) (by rw [List.size_toArray]; lia) ?_
  rw [List.size_toArray, hlen]
  exact EP.int H ⟨h, rfl⟩
theorem CallOk.lenStr {y : Str} (hl : y.length < 2 ^ 62) (h : P (.int y.length)) : CallOk c (.builtin "len") [.str y] P := fun env σ hid z s vs H hv E => by
  unfold VRs at hv; obtain ⟨v, r, rfl, hv, hr⟩ := hv
  unfold VRs at hr; subst hr
  unfold VR at hv; obtain ⟨t, rfl⟩ := hv
  exact PySem.P.len_str (by lia) (EP.int H ⟨h, rfl⟩)
/-! strs -/
theorem made_str {x y : Str} {t u : Tok} {hid z : List (Addr × Obj)} (H : At c hid z env σ s) (h : Post (.str (x ++ y)) σ) (hl : (x ++ y).length ≤ sizeLine) :
    (if x.length == 0 then Made.val (.str y u) else if y.length == 0 then Made.val (.str x t) else Made.str (x ++ y)).post (EP c hid z env s Post) s := by
  have hy : x.length = 0 → x ++ y = y := fun e => by
    obtain ⟨⟨cx⟩⟩ := x; obtain ⟨⟨cy⟩⟩ := y
    have : cx = [] := by simpa [Str.length] using e
    subst this
    show (⟨_⟩ : Str) = _
    simp [Str.append]
  have hx : y.length = 0 → x ++ y = x := fun e => by
    obtain ⟨⟨cx⟩⟩ := x; obtain ⟨⟨cy⟩⟩ := y
    have : cy = [] := by simpa [Str.length] using e
    subst this
    show (⟨_⟩ : Str) = _
    simp [Str.append]
  by_cases e1 : x.length = 0
  · rw [if_pos (by simpa using e1)]
    rw [hy e1] at h
    exact ⟨z, _, σ, fun _ h => h, H, by unfold VR; exact ⟨u, rfl⟩, ⟨rfl, rfl, rfl⟩, h⟩
  · rw [if_neg (by simpa using e1)]
    by_cases e2 : y.length = 0
    · rw [if_pos (by simpa using e2)]
      rw [hx e2] at h
      exact ⟨z, _, σ, fun _ h => h, H, by unfold VR; exact ⟨t, rfl⟩, ⟨rfl, rfl, rfl⟩, h⟩
    · rw [if_neg (by simpa using e2)]
      exact ⟨hl, EP.str H h⟩
theorem BinOk.addStr {x y : Str} (hl : (x ++ y).length ≤ sizeLine) (h : P (.str (x ++ y))) : BinOk c .Add (.str x) (.str y) P := fun env σ hid z s va vb H ha hb E => by
  unfold VR at ha hb
  obtain ⟨t, rfl⟩ := ha
  obtain ⟨u, rfl⟩ := hb
  exact PySem.P.add_str (made_str H ⟨h, rfl⟩ hl)
end
end
section
open PySem PySem.W PySem.Spec PySem.Calls PyProof.Rows

section
variable {c : Cx} {env : Env} {z z' hid : List (Addr × Obj)} {σ σ' : Sto} {s s' s₁ : Shared} {x : Str} {v : Value} {E : Value → Shared → Prop} {e l r : Expr} {es : List Expr} {pos p p' : Pos} {Post : V → Sto → Prop} {P : V → Prop} {Ps : List V → Sto → Prop} {args : List V} {f : Addr} {n : Nat} {B : Bool → Prop} {Q : Out → Sto → Prop}
theorem OP.from (h : OP c hid z' env s₁ Ps v s') (hz : Sub z z') (hs : Same s s₁) : OP c hid z env s Ps v s' := by
  obtain ⟨z2, xs, σ2, b, vs, n, a, e1, e2, e3, e4, e5, e6⟩ := h
  exact ⟨z2, xs, σ2, b, vs, n, fun p hp => a p (hz p hp), e1, e2, e3, e4, hs.trans e5, e6⟩
/-- a list made anew -/
theorem OP.new {vs : List Value} {xs : List V} {t : Nat} (H : At c hid z env σ s) (hv : VRs (PP c.base z) xs vs) (h : Ps xs σ) : OP c hid z env s Ps (.ref s.heap.objs.size) { s with heap := s.heap.push (lobj vs 0), toks := t } := by
  refine ⟨z, xs, σ, s.heap.objs.size, vs, 0, fun _ h => h, rfl, fun q hq => ?_, H.pushH.heap rfl, hv, ⟨rfl, rfl, rfl⟩, h⟩
  obtain ⟨m, own, F, N, _⟩ := H
  exact Nat.ne_of_gt (Heap.lt_size (N q (List.mem_append_right _ (List.mem_append_right _ hq))).1)
theorem AtX.newH {o : Obj} {h' : Heap} {t : Nat} {m : Pin} {own : List (Addr × Obj)} {b : Addr} (X : AtX c hid z env σ s m own) (hb : s.heap.objs.size ≤ b) (F' : Fr m.g c.L h' m.m) (N' : News m.g c.L h' ((b, o) :: (own ++ (z ++ hid)))) :
    At c ((b, o) :: hid) z env σ { s with heap := h', toks := t } ∧ ∀ q ∈ hid, b ≠ q.1 := by
  have X' := X
  obtain ⟨F, N, S1, S2, k, V, U, C⟩ := X
  have hn : ∀ p ∈ own ++ (z ++ hid), p.1 ≠ b := fun p hp => Nat.ne_of_lt (Nat.lt_of_lt_of_le (Heap.lt_size (N p hp).1) hb)
  refine ⟨At.grow (t := t) X' F' (fun p hp => N' p ?_) (fun p h => h) (fun _ h => .tail _ h) ?_ ?_, fun q hq => Ne.symm (hn q (List.mem_append_right _ (List.mem_append_right _ hq)))⟩
  · simp only [List.mem_append, List.mem_cons] at hp ⊢
    grind
  · intro p hp q hq
    rcases List.mem_append.mp hq with hq | hq
    · exact S1 p hp q (List.mem_append_left _ hq)
    · rcases List.mem_cons.mp hq with rfl | hq
      · exact hn p (List.mem_append_left _ hp)
      · exact S1 p hp q (List.mem_append_right _ hq)
  · intro p hp q hq
    rcases List.mem_cons.mp hq with rfl | hq
    · exact hn p (List.mem_append_right _ (List.mem_append_left _ hp))
    · exact S2 p hp q hq
theorem OP.ofNews {h' : Heap} {t : Nat} {m : Pin} {own : List (Addr × Obj)} {vs : List Value} {xs : List V} {k : Nat} {b : Addr} (X : AtX c hid z env σ s m own) (hb : s.heap.objs.size ≤ b) (F' : Fr m.g c.L h' m.m) (N' : News m.g c.L h' ((b, lobj vs k) :: (own ++ (z ++ hid))))
    (hv : VRs (PP c.base z) xs vs) (h : Ps xs σ) : OP c hid z env s Ps (.ref b) { s with heap := h', toks := t } := by
  obtain ⟨H, hq⟩ := X.newH (t := t) hb F' N'
  exact ⟨z, xs, σ, b, vs, k, fun _ h => h, rfl, hq, H, hv, ⟨rfl, rfl, rfl⟩, h⟩
theorem EVO.list (h : EVs c env es σ fun xs σ₁ => xs.length ≤ sizeLine ∧ Ps xs σ₁) : EVO c env (.List es pos) σ Ps := fun hid z s H E => by
  refine List_ (h.go H fun z₁ W σ₁ vs s₁ hz H₁ hv sm hPat => ?_)
  obtain ⟨hl, k⟩ := hPat
  refine wpAny_newObj_type (T := "list") (OP.from (OP.new (t := s₁.toks) H₁ hv k) hz sm) ?_
  show vs.toArray.size ≤ sizeLine
  rw [List.size_toArray, hv.len]; exact hl
theorem EV.tup {k : Nat} (h : EVs c env es σ fun xs σ₁ => xs.length ≤ sizeLine ∧ Post (.tup xs) σ₁) : EV c env (.Tuple es k pos) σ Post := fun hid z s H E => by
  refine Tuple_ (h.go H fun z₁ W σ₁ vs s₁ hz H₁ hv sm hPat => ?_)
  obtain ⟨hl, k⟩ := hPat
  refine wpAny_newObj_type (T := "tuple") ?_ ?_
  · refine ⟨_, .tup W, σ₁, fun p hp => .tail _ (hz p hp), H₁.pushZ, ?_, sm, k⟩
    unfold VR
    exact ⟨_, vs, 0, rfl, .inr (.head _), VRs.mono (PP.mono fun p h => .tail _ h) hv⟩
  · show vs.toArray.size ≤ sizeLine
    rw [List.size_toArray, hv.len]; exact hl
theorem EVs.mono {Ps' : List V → Sto → Prop} (h : EVs c env es σ Ps) (k : ∀ a σ, Ps a σ → Ps' a σ) : EVs c env es σ Ps' := fun hid z s H pos E =>
  wpAny_mono (h hid z s H pos E) (fun v s' hPat => by obtain ⟨z', W, σ', a, b, d, e, f⟩ := hPat; exact ⟨z', W, σ', a, b, d, e, k _ _ f⟩) fun _ _ e => e
theorem EVO.mono {Ps' : List V → Sto → Prop} (h : EVO c env e σ Ps) (k : ∀ a σ, Ps a σ → Ps' a σ) : EVO c env e σ Ps' := fun hid z s H E =>
  wpAny_mono (h hid z s H E) (fun v s' hPat => by obtain ⟨z', xs, σ', b, vs, n, e1, e2, e3, e4, e5, e6, e7⟩ := hPat; exact ⟨z', xs, σ', b, vs, n, e1, e2, e3, e4, e5, e6, k _ _ e7⟩) fun _ _ e => e
/-- a list times a number -/
theorem rep_foldl (vs : List Value) : ∀ k : Nat, List.foldl (fun x1 x2 => x1 ++ x2) (#[] : Array Value) (List.replicate k vs.toArray) = (List.replicate k vs).flatten.toArray
  | 0 => rfl
  | k + 1 => by
    rw [List.replicate_succ', List.foldl_append, rep_foldl vs k, List.replicate_succ', List.flatten_append]
    simp
theorem VRs.rep {P : Addr → Obj → Prop} {xs : List V} {vs : List Value} (h : VRs P xs vs) : ∀ k : Nat, VRs P (List.replicate k xs).flatten (List.replicate k vs).flatten
  | 0 => VRs.nil
  | k + 1 => by rw [List.replicate_succ, List.replicate_succ, List.flatten_cons, List.flatten_cons]; exact VRs.app h (VRs.rep h k)
theorem EVO.mulList {p : Pos} (h : EV c env l σ fun a σ₁ => EV c env r σ₁ fun b σ₂ => ∃ xs i, a = .lst xs ∧ b = .int i ∧ xs ≠ [] ∧ i < 2 ^ 20 ∧ -(2 ^ 63) ≤ i ∧ xs.length * i.toNat ≤ 2 ^ 24 ∧ Ps (List.replicate i.toNat xs).flatten σ₂) : EVO c env (.BinOp l .Mult r p) σ Ps := fun hid z s H E => by
  refine wpAny_BinOp (h.go H fun z₁ a σ₁ va s₁ hz₁ H₁ ha sm₁ h₁ => h₁.go H₁ fun z₂ b σ₂ vb s₂ hz₂ H₂ hb sm₂ h₂ => ?_)
  obtain ⟨xs, i, rfl, rfl, hne, hi, hi0, hsz, k⟩ := h₂
  unfold VR at ha hb
  obtain ⟨ad, vs, n, rfl, hp, hr⟩ := ha
  obtain ⟨t, rfl⟩ := hb
  obtain ⟨m, own, X⟩ := id H₂
  have hr' := VRs.mono (PP.mono hz₂) hr
  have hne' : vs.toArray.isEmpty = false := by
    have := hr.len
    cases vs with
    | nil => cases xs with
      | nil => exact absurd rfl hne
      | cons _ _ => simp at this
    | cons _ _ => rfl
  refine mul_list (h₀ := m.g) (L := c.L) (m := m.m) (news := own ++ (z₂ ++ hid)) X.x1 X.x2 (H₂.get (PP.mono hz₂ _ _ hp)) hi0 (by lia) (by rw [List.size_toArray, hr.len]; exact hsz) fun h' F' N' => ?_
  rw [hne', rep_foldl] at N'
  exact OP.from (OP.ofNews (t := s₂.toks) X (Nat.le_refl _) F' N' (hr'.rep _) k) (fun p hp => hz₂ p (hz₁ p hp)) (sm₁.trans sm₂)
theorem EVO.addList {p : Pos} (h : EV c env l σ fun a σ₁ => EV c env r σ₁ fun b σ₂ => ∃ xs ys, a = .lst xs ∧ b = .lst ys ∧ xs.length + ys.length ≤ sizeLine ∧ Ps (xs ++ ys) σ₂) : EVO c env (.BinOp l .Add r p) σ Ps := fun hid z s H E => by
  refine wpAny_BinOp (h.go H fun z₁ a σ₁ va s₁ hz₁ H₁ ha sm₁ h₁ => h₁.go H₁ fun z₂ b σ₂ vb s₂ hz₂ H₂ hb sm₂ h₂ => ?_)
  obtain ⟨xs, ys, rfl, rfl, hsz, k⟩ := h₂
  unfold VR at ha hb
  obtain ⟨ad, vs, n, rfl, hp, hr⟩ := ha
  obtain ⟨bd, us, n', rfl, hp', hr'⟩ := hb
  obtain ⟨m, own, X⟩ := id H₂
  have hr := VRs.mono (PP.mono hz₂) hr
  refine add_arrays (h₀ := m.g) (L := c.L) (m := m.m) (news := own ++ (z₂ ++ hid)) X.x1 X.x2 (isL (H₂.get (PP.mono hz₂ _ _ hp))) (isL (H₂.get hp')) (fun h' F' N' => ?_) (by rw [List.size_toArray, List.size_toArray, hr.len, hr'.len]; exact hsz)
  exact OP.from (OP.ofNews (t := s₂.toks) (vs := vs ++ us) X (Nat.le_refl _) F' N' (hr.app hr') k) (fun p hp => hz₂ p (hz₁ p hp)) (sm₁.trans sm₂)
/-! items -/
noncomputable def nth (xs : List V) (i : Int) : Option V := if 0 ≤ i then xs[i.toNat]? else if -(xs.length : Int) ≤ i then xs[(i + xs.length).toNat]? else none
theorem nth_lo {xs : List V} {i : Int} {W : V} (h : nth xs i = some W) : -(xs.length : Int) ≤ i ∧ i < xs.length := by
  unfold nth at h
  split at h
  · have := (List.getElem?_eq_some_iff.mp h).1
    lia
  · split at h
    · lia
    · cases h
theorem sub_list {value slice : Expr} {a : Addr} {vs : List Value} {k : Nat} {xs : List V} {i : Int} {t : Tok} {W : V} {Z : List (Addr × Obj)} {Q : Value → Shared → Prop} (e : s.heap.get? a = some (lobj vs k)) (hr : VRs (PP c.base Z) xs vs) (hl : xs.length < 2 ^ 62) (hn : nth xs i = some W)
    (h : ∀ v, VR (PP c.base Z) W v → Q v s) (hs : subscripted slice false (.ref a) (.int i t) = operate [.ref a, .int i t] (getItem (.ref a) (.int i t))) : wpAny c.M c.A (subscriptTail value slice (.ref a) (.int i t)) Q E s := by
  have hlen := hr.len
  have hb := nth_lo hn
  unfold nth at hn
  refine tail_any (isL e).typeIs slot_list_getitem.lookup ?_ hs
  split at hn
  · rename_i h0
    obtain ⟨v, hv, hw⟩ := hr.get hn
    exact wpAny_getItem_list (isL e) h0 (by lia) (by simpa using hv) (h v hw)
  · rename_i h0
    rw [if_pos hb.1] at hn
    obtain ⟨v, hv, hw⟩ := hr.get hn
    refine wpAny_getItem_list_neg (isL e) (by lia) (by rw [List.size_toArray]; lia) (by lia) ?_ (h v hw)
    rw [List.size_toArray, hlen]; simpa using hv
theorem EV.item {slice : Expr} (h : EV c env e σ fun a σ₁ => EV c env slice σ₁ fun b σ₂ => ∃ xs i W, a = .lst xs ∧ b = .int i ∧ xs.length < 2 ^ 62 ∧ nth xs i = some W ∧ Post W σ₂)
    (hs : ∀ o i, subscripted slice false o i = operate [o, i] (getItem o i) := by intro _ _; rfl) : EV c env (.Subscript e slice pos) σ Post := fun hid z s H E => by
  refine Subscript_ (h.go H fun z₁ a σ₁ va s₁ hz₁ H₁ ha sm₁ h₁ => h₁.go H₁ fun z₂ b σ₂ vb s₂ hz₂ H₂ hb sm₂ h₂ => ?_)
  obtain ⟨xs, i, W, rfl, rfl, hl, hn, k⟩ := h₂
  unfold VR at ha hb
  obtain ⟨ad, vs, n, rfl, hp, hr⟩ := ha
  obtain ⟨t, rfl⟩ := hb
  exact sub_list (H₂.get (PP.mono hz₂ _ _ hp)) (VRs.mono (PP.mono hz₂) hr) hl hn (fun v hv => ⟨z₂, W, σ₂, fun p hp => hz₂ p (hz₁ p hp), H₂, hv, sm₁.trans sm₂, k⟩) (hs _ _)
/-- an item of a list that a name holds; the list stays the frame's own -/
theorem EV.itemN {slice : Expr} {xs : List V} (hx : Holds σ x xs) (h : EV c env slice σ fun b σ₂ => ∃ i W, b = .int i ∧ sget σ₂ x = sget σ x ∧ xs.length < 2 ^ 62 ∧ nth xs i = some W ∧ Post W σ₂)
    (hs : ∀ o i, subscripted slice false o i = operate [o, i] (getItem o i) := by intro _ _; rfl) (h1 : (x == ("__debug__" : Str)) = false := by decide) (h2 : (x == ("__classdict__" : Str)) = false := by decide) : EV c env (.Subscript (.Name x p) slice pos) σ Post := fun hid z s H E => by
  obtain ⟨a, vs, n, load, hg, hr, w⟩ := H.peek hx h1 h2
  refine Subscript_ (load _ _ _ (h.go H fun z₂ b σ₂ vb s₂ hz₂ H₂ hb sm₂ h₂ => ?_))
  obtain ⟨i, W, rfl, same, hl, hn, k⟩ := h₂
  unfold VR at hb
  obtain ⟨t, rfl⟩ := hb
  obtain ⟨vs', n', hg', hr'⟩ := H₂.still hz₂ hr w same
  exact sub_list hg' hr' hl hn (fun v hv => ⟨z₂, W, σ₂, hz₂, H₂, hv, sm₂, k⟩) (hs _ _)
theorem EV.itemT {slice : Expr} (h : EV c env e σ fun a σ₁ => EV c env slice σ₁ fun b σ₂ => ∃ xs i W, a = .tup xs ∧ b = .int i ∧ 0 ≤ i ∧ xs.length < 2 ^ 62 ∧ xs[i.toNat]? = some W ∧ Post W σ₂)
    (hs : ∀ o i, subscripted slice false o i = operate [o, i] (getItem o i) := by intro _ _; rfl) : EV c env (.Subscript e slice pos) σ Post := fun hid z s H E => by
  refine Subscript_ (h.go H fun z₁ a σ₁ va s₁ hz₁ H₁ ha sm₁ h₁ => h₁.go H₁ fun z₂ b σ₂ vb s₂ hz₂ H₂ hb sm₂ h₂ => ?_)
  obtain ⟨xs, i, W, rfl, rfl, h0, hl, hn, k⟩ := h₂
  unfold VR at ha hb
  obtain ⟨ad, vs, n, rfl, hp, hr⟩ := ha
  obtain ⟨t, rfl⟩ := hb
  obtain ⟨v, hv, hw⟩ := hr.get hn
  have hlt := (List.getElem?_eq_some_iff.mp hv).1
  have hlen := hr.len
  refine item_tupleT (j := i.toNat) (isT (H₂.get (PP.mono hz₂ _ _ hp))) (by lia) (by lia) ?_ hv ⟨z₂, W, σ₂, fun p hp => hz₂ p (hz₁ p hp), H₂, hw.mono (PP.mono hz₂), sm₁.trans sm₂, k⟩ (hs _ _)
  unfold seqIndex?
  simp only []
  split <;> (try split) <;> (try split) <;> simp_all <;> lia
end
end
section
open PySem PySem.W PySem.Spec PySem.Calls PyProof.Rows

section
variable {c : Cx} {env : Env} {z z' hid : List (Addr × Obj)} {σ σ' : Sto} {s s' s₁ : Shared} {x : Str} {v : Value} {E : Value → Shared → Prop} {e l r : Expr} {es : List Expr} {pos p p' p'' spos : Pos} {Post : V → Sto → Prop} {P : V → Prop} {Ps : List V → Sto → Prop} {args : List V} {f : Addr} {n : Nat} {B : Bool → Prop} {Q : Out → Sto → Prop}
/-! slices -/
noncomputable def PV (c : Cx) (env : Env) (o : Option Expr) (σ : Sto) (Po : Option Int → Sto → Prop) : Prop := match o with
  | none => Po none σ
  | some e => EV c env e σ fun V σ₁ => ∃ i, V = .int i ∧ Po (some i) σ₁
theorem PV.go {o : Option Expr} {Po : Option Int → Sto → Prop} {k : Value → Shared → Prop} (h : PV c env o σ Po) (H : At c hid z env σ s)
    (hk : ∀ z' i σ' v s₁, Sub z z' → At c hid z' env σ' s₁ → IsPart v i → Same s s₁ → Po i σ' → k v s₁) : wpAny c.M c.A (evalPart o env) k E s := by
  cases o with
  | none => exact evalPart_none_step (hk z _ σ _ _ (fun _ h => h) H .none ⟨rfl, rfl, rfl⟩ h)
  | some e =>
    refine evalPart_some_step (EV.go h H fun z₁ V σ₁ v s₁ hz H₁ hv sm hPat => ?_)
    obtain ⟨i, e, k⟩ := hPat
    subst e
    unfold VR at hv
    obtain ⟨t, rfl⟩ := hv
    exact hk z₁ _ σ₁ _ s₁ hz H₁ (.int i t) sm k
noncomputable def slc {α : Type} (xs : List α) (lo hi st : Option Int) : List α :=
  (sliceRange (sliceBounds lo hi st xs.length).1 (sliceBounds lo hi st xs.length).2.1 (sliceBounds lo hi st xs.length).2.2).filterMap (xs[·]?)
theorem slicePick_slc (vs : List Value) (lo hi st : Option Int) : slicePick vs.toArray lo hi st = (slc vs lo hi st).toArray := by
  unfold slicePick slc
  simp
theorem VRs.pick {P : Addr → Obj → Prop} {xs : List V} {vs : List Value} (h : VRs P xs vs) : ∀ is : List Nat, VRs P (is.filterMap (xs[·]?)) (is.filterMap (vs[·]?))
  | [] => VRs.nil
  | i :: is => by
    rw [List.filterMap_cons, List.filterMap_cons]
    cases e : xs[i]? with
    | none =>
      have : vs[i]? = none := by
        rw [List.getElem?_eq_none_iff] at e ⊢
        rw [h.len]; exact e
      rw [this]; exact VRs.pick h is
    | some W =>
      obtain ⟨v, hv, hw⟩ := h.get e
      rw [hv]; exact VRs.cons hw (VRs.pick h is)
theorem VRs.slc {P : Addr → Obj → Prop} {xs : List V} {vs : List Value} (h : VRs P xs vs) (lo hi st : Option Int) : VRs P (Mine.slc xs lo hi st) (Mine.slc vs lo hi st) := by
  unfold Mine.slc
  rw [h.len]
  exact h.pick _
theorem slc_map {α β : Type} (g : α → β) (xs : List α) (lo hi st : Option Int) : slc (xs.map g) lo hi st = (slc xs lo hi st).map g := by
  unfold slc
  rw [List.map_filterMap, List.length_map]
  simp
/-- the slice's end: the list and the parts are there -/
theorem slice_end {value slice : Expr} {lo hi st : Option Int} {vl vu vt : Value} {a : Addr} {vs : List Value} {k : Nat} {xs : List V} (H : At c hid z env σ s) (hg : s.heap.get? a = some (lobj vs k)) (hr : VRs (PP c.base z) xs vs)
    (pl : IsPart vl lo) (pu : IsPart vu hi) (pt : IsPart vt st) (h0 : st ≠ some 0) (hl : xs.length ≤ sizeLine) (hP : Ps (slc xs lo hi st) σ) (hs : ∀ o i, ∃ ops, subscripted slice false o i = operate ops (getItem o i)) :
    wpAny c.M c.A (subscriptTail value slice (.ref a) (.ref s.heap.objs.size)) (OP c hid z env s Ps) E { s with heap := s.heap.push { cls := .type "slice", data := .fields #[vl, vu, vt] } } := by
  have H' := H.pushZ (o := { cls := .type "slice", data := .fields #[vl, vu, vt] })
  have hg' : (s.heap.push { cls := .type "slice", data := .fields #[vl, vu, vt] }).get? a = some (lobj vs k) := Heap.get?_push_of_some _ hg
  obtain ⟨ops, hops⟩ := hs (.ref a) (.ref s.heap.objs.size)
  refine tail_any (isL hg').typeIs slot_list_getitem.lookup (wpAny_getItem_list_slice (isL hg') (Heap.IsSliceOf.new ..) pl pu pt h0 ?_ (by rw [List.size_toArray, hr.len]; exact hl)) hops
  rw [slicePick_slc]
  refine OP.from (OP.new (t := s.toks) H' (VRs.mono (PP.mono fun p h => .tail _ h) (hr.slc lo hi st)) hP) (fun p h => .tail _ h) ⟨rfl, rfl, rfl⟩
theorem EVO.slice {lo hi st : Option Expr} (h : EV c env e σ fun a σ₁ => PV c env lo σ₁ fun i σ₂ => PV c env hi σ₂ fun j σ₃ => PV c env st σ₃ fun k σ₄ => ∃ xs, a = .lst xs ∧ xs.length ≤ sizeLine ∧ k ≠ some 0 ∧ Ps (slc xs i j k) σ₄)
    (hs : ∀ o i, ∃ ops, subscripted (.Slice lo hi st p) false o i = operate ops (getItem o i) := by exact fun _ _ => ⟨_, rfl⟩) : EVO c env (.Subscript e (.Slice lo hi st p) pos) σ Ps := fun hid z s H E => by
  refine Subscript_ (h.go H fun z₁ a σ₁ va s₁ hz₁ H₁ ha sm₁ h₁ => wpAny_Slice (h₁.go H₁ fun z₂ i σ₂ vi s₂ hz₂ H₂ hi sm₂ h₂ => h₂.go H₂ fun z₃ j σ₃ vj s₃ hz₃ H₃ hj sm₃ h₃ => h₃.go H₃ fun z₄ k σ₄ vk s₄ hz₄ H₄ hk sm₄ h₄ => ?_))
  obtain ⟨xs, rfl, hl, h0, hP⟩ := h₄
  unfold VR at ha
  obtain ⟨ad, vs, n, rfl, hp, hr⟩ := ha
  have hz : Sub z₁ z₄ := fun p h => hz₄ p (hz₃ p (hz₂ p h))
  exact wpAny_mono (slice_end H₄ (H₄.get (PP.mono hz _ _ hp)) (VRs.mono (PP.mono hz) hr) hi hj hk h0 hl hP hs) (fun v s' x => OP.from x (fun p h => hz p (hz₁ p h)) (sm₁.trans (sm₂.trans (sm₃.trans sm₄)))) fun _ _ e => e
theorem EVO.sliceN {lo hi st : Option Expr} {xs : List V} (hx : Holds σ x xs) (h : PV c env lo σ fun i σ₂ => PV c env hi σ₂ fun j σ₃ => PV c env st σ₃ fun k σ₄ => sget σ₄ x = sget σ x ∧ xs.length ≤ sizeLine ∧ k ≠ some 0 ∧ Ps (slc xs i j k) σ₄)
    (hs : ∀ o i, ∃ ops, subscripted (.Slice lo hi st p) false o i = operate ops (getItem o i) := by exact fun _ _ => ⟨_, rfl⟩) (h1 : (x == ("__debug__" : Str)) = false := by decide) (h2 : (x == ("__classdict__" : Str)) = false := by decide) : EVO c env (.Subscript (.Name x p') (.Slice lo hi st p) pos) σ Ps := fun hid z s H E => by
  obtain ⟨a, vs, n, load, hg, hr, w⟩ := H.peek hx h1 h2
  refine Subscript_ (load _ _ _ (wpAny_Slice (h.go H fun z₂ i σ₂ vi s₂ hz₂ H₂ hi sm₂ h₂ => h₂.go H₂ fun z₃ j σ₃ vj s₃ hz₃ H₃ hj sm₃ h₃ => h₃.go H₃ fun z₄ k σ₄ vk s₄ hz₄ H₄ hk sm₄ h₄ => ?_)))
  obtain ⟨same, hl, h0, hP⟩ := h₄
  have hz : Sub z z₄ := fun p h => hz₄ p (hz₃ p (hz₂ p h))
  obtain ⟨vs', n', hg', hr'⟩ := H₄.still hz hr w same
  exact wpAny_mono (slice_end H₄ hg' hr' hi hj hk h0 hl hP hs) (fun v s' x => OP.from x hz (sm₂.trans (sm₃.trans sm₄))) fun _ _ e => e
/-! a list that the frame may change -/
theorem mapSeq_lobj (g : Array Value → Array Value) (vs : List Value) (n : Nat) : Obj.mapSeq g (lobj vs n) = lobj (g vs.toArray).toList (if (g vs.toArray).size == vs.toArray.size then n else n + 1) := by
  show (⟨_, _, _, _⟩ : Obj) = ⟨_, _, _, _⟩
  simp
theorem call_meth1 {id : String} {k : Value → Shared → Prop} {v : Value} (h : EV c env e σ Post) (H : At c hid z env σ s) (he : starEach [e] env = [(false, eval e env)])
    (hk : ∀ z' V σ' u s₁, Sub z z' → At c hid z' env σ' s₁ → VR (PP c.base z') V u → Same s s₁ → Post V σ' → wpAny c.M c.A (call (.builtin id) [v, u]) k E s₁) :
    wpAny c.M c.A (callWith pos (.builtin id) [v] (backTo pos (starEach [e] env)) []) k E s := by
  rw [he]
  refine Calls.callWith_builtin rfl (Calls.evalArgs_plain (Calls.spliced_cons ?_))
  exact h.go H fun z₁ V σ₁ u s₁ hz H₁ hv sm k => Calls.spliced_nil (hk z₁ V σ₁ u s₁ hz H₁ hv sm k)
theorem At.fn_env (H : At c hid z c.env σ s) : interactive c.env = false := by
  obtain ⟨_, ek⟩ := H.envOk
  have := ek.kind
  unfold interactive
  rw [this]; rfl
theorem S1.append (hx : ∃ b xs, sget σ x = some (.own b xs)) (h : EV c c.env e σ fun V σ₁ => ∃ b xs, sget σ x = some (.own b xs) ∧ sget σ₁ x = some (.own b xs) ∧ xs.length ≤ sizeLine ∧ Q .nxt (sput σ₁ x (.own b (xs ++ [V]))))
    (hline : (p'.endLine == pos.line) = true := by rfl) (he : starEach [e] c.env = [(false, eval e c.env)] := by rfl)
    (h1 : (x == ("__debug__" : Str)) = false := by decide) (h2 : (x == ("__classdict__" : Str)) = false := by decide) : S1 c (.Expr (.Call (.Attribute (.Name x p) (.ofString "append") p') [e] [] pos) spos) σ Q := fun hid z s H E => by
  obtain ⟨b, xs, hx⟩ := hx
  obtain ⟨a, vs, n, load, hg, hr, w⟩ := H.peek (.own hx) h1 h2
  have hab : a = b := by
    rcases w with ⟨b', e, rfl⟩ | ⟨b', e, rfl⟩ | ⟨e, _⟩
    · rw [hx] at e; cases e; rfl
    · rw [hx] at e; cases e
    · rw [hx] at e; cases e
  subst hab
  refine wpAny_Expr_any (wpAny_Call_method (T := "list") (id := "list.append") rfl (by rw [he]; rfl) hline PySem.F.plainAttrs_list slot_list_append (by rfl) (load _ _ _ ⟨(isL hg).typeIs, fun q e => by cases e; exact ⟨_, hg, rfl⟩, ?_⟩)) H.fn_env rfl
  refine call_meth1 h H he fun z₁ V σ₁ u s₁ hz H₁ hu sm hPat => ?_
  obtain ⟨b, xs, hx', hx₁, hl, k⟩ := hPat
  rw [hx] at hx'; cases hx'
  obtain ⟨m, own, X⟩ := id H₁
  obtain ⟨hs, vs', n', hm, hr'⟩ := X.x6 x _ hx₁
  have hg' := (X.x2 _ (List.mem_append_left _ hm)).1
  refine wpAny_list_append_plain (items := vs'.toArray) ⟨n', hg'⟩ (fun h' ⟨n'', hp⟩ hs' => ?_) (by rw [List.size_toArray, hr'.len]; exact hl)
  have hp' : h'.get? a = some (lobj (vs' ++ [u]) n'') := by rw [hp]; simp [lobj]
  exact ⟨z₁, .nxt, _, hz, At.mutate (t := s₁.toks) X hx₁ hm hs' hp' (hr'.app (VRs.cons hu VRs.nil)), rfl, sm, k⟩
/-- an item is stored -/
theorem set_list {xs : List V} {b : Addr} {i : Int} {t : Tok} {W : V} {u : Value} (H : At c hid z c.env σ s) (hx : sget σ x = some (.own b xs)) (hw : VR (PP c.base z) W u) (h0 : 0 ≤ i) (hi : i < xs.length) (hl : xs.length < 2 ^ 62) (hQ : Q .nxt (sput σ x (.own b (xs.set i.toNat W)))) :
    wpAny c.M c.A (setItem (.ref b) (.int i t) u) (fun _ => SP c hid z s Q .next) E s := by
  obtain ⟨m, own, X⟩ := id H
  obtain ⟨hs, vs, n, hm, hr⟩ := X.x6 x _ hx
  have hg := (X.x2 _ (List.mem_append_left _ hm)).1
  have hlen := hr.len
  refine ki_setAt (n := n) (items := vs.toArray) hg h0 (by lia) (by rw [List.size_toArray]; lia) ?_
  have hp : (s.heap.update b (Obj.mapSeq (·.setIfInBounds i.toNat u))).get? b = some (lobj (vs.set i.toNat u) n) := by
    have q := PySem.IsL.update hg (·.setIfInBounds i.toNat u)
    rw [q]
    simp [IsL]
  exact ⟨z, .nxt, _, fun _ h => h, At.mutate (t := s.toks) X hx hm (Heap.SameBut.update ..) hp (hr.set hw), rfl, ⟨rfl, rfl, rfl⟩, hQ⟩
end
end
section
open PySem PySem.W PySem.Spec PySem.Calls PyProof.Rows

section
variable {c : Cx} {env : Env} {own z z' hid : List (Addr × Obj)} {σ σ' : Sto} {s s' s₁ : Shared} {x : Str} {v : Value} {E : Value → Shared → Prop} {e l r : Expr} {es : List Expr} {pos p p' p'' spos px : Pos} {Post : V → Sto → Prop} {P : V → Prop} {Ps : List V → Sto → Prop} {args : List V} {f : Addr} {n : Nat} {B : Bool → Prop} {Q : Out → Sto → Prop} {m : Pin} {I : Addr} {o o' : Obj} {body : List Stmt}
/-- at a def's own level a name is read out of the frame or of the def's own cells -/
theorem Src.mine (X : AtX c hid z c.env σ s m own) (h : Src c c.env m (own ++ (z ++ hid)) x v) : Src c c.env m (own ++ c.keep) x v := by
  obtain ⟨F, N, S1, S2, k, V, U, C⟩ := X
  rcases h with ⟨k', h | ⟨oC, m₂, a, b, d⟩⟩ | ⟨k', cd, o, a, b, d⟩
  · exact .inl ⟨k', .inl h⟩
  · exact absurd rfl (N _ a).2.1
  · obtain ⟨o₂, v₀, hm, hd⟩ := (C.1 rfl).1 x cd a
    have h1 := (N _ b).1
    have hm' : (cd, o₂) ∈ own ++ (z ++ hid) := hm.elim (List.mem_append_left _) fun h => List.mem_append_right _ (List.mem_append_left _ (C.2.kept _ h))
    rw [(N _ hm').1] at h1
    cases h1
    exact .inr ⟨k', cd, o, a, List.mem_append.mpr hm, d⟩
theorem AtX.reHid {hid' : List (Addr × Obj)} {h' : Heap} {t : Nat} (X : AtX c hid z c.env σ s m own) (F' : Fr m.g c.L h' m.m) (N' : News m.g c.L h' (own ++ (z ++ hid'))) (S1' : Sep own (z ++ hid')) (S2' : Sep z hid') :
    At c hid' z c.env σ { s with heap := h', toks := t } := by
  have X0 := X
  obtain ⟨F, N, S1, S2, k, V, U, C⟩ := X
  have sub : Sub (own ++ c.keep) (own ++ (z ++ hid')) := fun p hp => (List.mem_append.mp hp).elim (List.mem_append_left _) fun h => List.mem_append_right _ (List.mem_append_left _ (C.2.kept _ h))
  refine ⟨m, own, F', N', S1', S2', k, fun x l hx => ?_, U, C⟩
  have := V x l hx
  cases l with
  | frz W => obtain ⟨u, a, b⟩ := this; exact ⟨u, (a.mine X0).mono sub, b⟩
  | own q us => obtain ⟨a, us', n', b', d⟩ := this; exact ⟨(a.mine X0).mono sub, us', n', b', d⟩
  | brw q us => exact absurd hx ((C.1 rfl).2.2 x q us)
  | raw w => exact (Src.mine X0 this).mono sub
theorem At.drop {p : Addr × Obj} (H : At c (p :: hid) z c.env σ s) : At c hid z c.env σ s := by
  obtain ⟨m, own, X⟩ := H
  refine AtX.reHid (t := s.toks) X X.x1 (fun q hq => X.x2 q ?_) (fun q hq r hr => X.x3 q hq r ?_) (fun q hq r hr => X.x4 q hq r (.tail _ hr))
  · simp only [List.mem_append, List.mem_cons] at hq ⊢; grind
  · simp only [List.mem_append, List.mem_cons] at hr ⊢; grind
theorem At.swapI {h' : Heap} {t : Nat} (H : At c ((I, o) :: hid) z c.env σ s) (hI : ∀ q ∈ hid, I ≠ q.1) (keep : ∀ b ob, b ≠ I → s.heap.get? b = some ob → h'.get? b = some ob) (ho : h'.get? I = some o') :
    At c ((I, o') :: hid) z c.env σ { s with heap := h', toks := t } := by
  obtain ⟨m, own, X⟩ := H
  have hIN := X.x2 (I, o) (by simp)
  have off : ∀ p ∈ own ++ (z ++ hid), p.1 ≠ I := fun p hp => by
    rcases List.mem_append.mp hp with h | h
    · exact X.x3 p h (I, o) (List.mem_append_right _ (.head _))
    · rcases List.mem_append.mp h with h | h
      · exact X.x4 p h (I, o) (.head _)
      · exact Ne.symm (hI p h)
  refine AtX.reHid (t := t) X ⟨X.x1.ns.at' fun ob e => keep _ _ (Ne.symm hIN.2.1) e, fun b ob e => keep _ _ (fun q => ?_) (X.x1.keep b ob e), X.x1.above⟩ (fun q hq => ?_) (fun q hq r hr => ?_) (fun q hq r hr => ?_)
  · rw [q, hIN.2.2] at e; cases e
  · have hq' : q = (I, o') ∨ q ∈ own ++ (z ++ hid) := by simp only [List.mem_append, List.mem_cons] at hq ⊢; grind
    rcases hq' with rfl | hq'
    · exact ⟨ho, hIN.2⟩
    · have := X.x2 q (by simp only [List.mem_append, List.mem_cons] at hq' ⊢; grind)
      exact ⟨keep _ _ (off q hq') this.1, this.2⟩
  · have hr' : r = (I, o') ∨ r ∈ z ++ hid := by simp only [List.mem_append, List.mem_cons] at hr ⊢; grind
    rcases hr' with rfl | hr'
    · exact off q (List.mem_append_left _ hq)
    · exact X.x3 q hq r (by simp only [List.mem_append, List.mem_cons] at hr' ⊢; grind)
  · rcases List.mem_cons.mp hr with rfl | hr
    · exact off q (List.mem_append_right _ (List.mem_append_left _ hq))
    · exact X.x4 q hq r (.tail _ hr)
theorem At.dropI {h' : Heap} {t : Nat} (H : At c ((I, o) :: hid) z c.env σ s) (hI : ∀ q ∈ hid, I ≠ q.1) (keep : ∀ b ob, b ≠ I → s.heap.get? b = some ob → h'.get? b = some ob) : At c hid z c.env σ { s with heap := h', toks := t } := by
  obtain ⟨m, own, X⟩ := H
  have hIN := X.x2 (I, o) (by simp)
  have off : ∀ p ∈ own ++ (z ++ hid), p.1 ≠ I := fun p hp => by
    rcases List.mem_append.mp hp with h | h
    · exact X.x3 p h (I, o) (List.mem_append_right _ (.head _))
    · rcases List.mem_append.mp h with h | h
      · exact X.x4 p h (I, o) (.head _)
      · exact Ne.symm (hI p h)
  refine AtX.reHid (t := t) X ⟨X.x1.ns.at' fun ob e => keep _ _ (Ne.symm hIN.2.1) e, fun b ob e => keep _ _ (fun q => ?_) (X.x1.keep b ob e), X.x1.above⟩ (fun q hq => ?_) (fun q hq r hr => ?_) (fun q hq r hr => ?_)
  · rw [q, hIN.2.2] at e; cases e
  · have := X.x2 q (by simp only [List.mem_append, List.mem_cons] at hq ⊢; grind)
    exact ⟨keep _ _ (off q hq) this.1, this.2⟩
  · exact X.x3 q hq r (by simp only [List.mem_append, List.mem_cons] at hr ⊢; grind)
  · exact X.x4 q hq r (.tail _ hr)
/-- what a turn's end asks -/
noncomputable def LE (Jn : Sto → Prop) (Q : Out → Sto → Prop) : Out → Sto → Prop
  | .nxt, σ => Jn σ
  | .brk, σ => Q .nxt σ
  | .ret V, σ => Q (.ret V) σ
/-- the loop itself: an iterator, what it gives, an invariant over the store -/
theorem forLoop_core {fp : List Addr} {n : Nat} {PI : Nat → Value → Prop} {St : Nat → Heap → Prop} {items : Nat → V} {R : Result → Shared → Prop} (W : Walks c.prog c.w c.A I fp [I] n PI St) (hobj : ∀ i h, St i h → ∃ o, h.get? I = some o)
    (hfp : ∀ b ∈ fp, b = I ∨ ∃ ob, PP c.base z b ob) (hit : ∀ i v, PI i v → VR (PP c.base z) (items i) v) (hx : Storable c x) (J : Nat → Sto → Prop)
    (step : ∀ i σ, i < n → J i σ → ST c body (sput σ x (.frz (items i))) (LE (J (i + 1)) Q))
    (done : ∀ σ, J n σ → Q .nxt σ) (hI : ∀ q ∈ hid, I ≠ q.1) (H : At c ((I, o) :: hid) z c.env σ s) (hst : St 0 s.heap) (h0 : J 0 σ) (hR : ∀ f s', SP c hid z s Q f s' → R (.ok f) s') :
    codeAny c.M c.A (.forLoop (.Name x px) (.ref I) body [] c.env) R s := by
  refine codeAny_forLoop (fun k s' => ∃ i z' σ' o', k = n + 1 - i ∧ i ≤ n ∧ Sub z z' ∧ At c ((I, o') :: hid) z' c.env σ' s' ∧ St i s'.heap ∧ Same s s' ∧ J i σ') ?_ (n + 1) ⟨0, z, σ, o, rfl, Nat.zero_le _, fun _ h => h, H, hst, ⟨rfl, rfl, rfl⟩, h0⟩
  rintro k s' ⟨i, z', σ', o', rfl, hi, hz, H', hst', sm, hJ⟩
  by_cases hlt : i < n
  · refine W.item i _ _ _ hlt hst' fun v h' tk hP hst2 hk => ?_
    obtain ⟨o2, ho2⟩ := hobj _ _ hst2
    have keep : ∀ b ob, b ≠ I → s'.heap.get? b = some ob → h'.get? b = some ob := fun b ob hb e => hk b ob (by simpa using hb) e
    have H2 := H'.swapI (t := tk) hI keep ho2
    refine wpAny_assign_Name (wpAny_mono (H2.store ((hit i v hP).mono (PP.mono hz)) hx) (fun _ s3 hPat => ?_) fun _ _ e => e)
    obtain ⟨H3, sm3⟩ := hPat
    refine wpAny_mono (step i σ' hlt hJ _ _ s3 H3 _) (fun f s4 hPat => ?_) fun _ _ e => e
    obtain ⟨z4, oo, σ4, hz4, H4, ho4, sm4, hQ⟩ := hPat
    have smm : Same s s4 := sm.trans (Same.trans (a := s') (b := { s' with heap := h', toks := tk }) ⟨rfl, rfl, rfl⟩ (sm3.trans sm4))
    have hzz : Sub z z4 := fun p hp => hz4 p (hz p hp)
    cases oo with
    | nxt =>
      cases ho4
      refine ⟨n + 1 - (i + 1), by lia, i + 1, z4, σ4, o2, rfl, hlt, hzz, H4, ?_, smm, hQ⟩
      refine W.frame _ _ _ hst2 fun b hb ob e => ?_
      rcases hfp b hb with rfl | ⟨ob', hp⟩
      · rw [ho2] at e; cases e
        obtain ⟨m, own, X⟩ := H4
        exact (X.x2 (b, o2) (by simp)).1
      · have h1 := H2.get (PP.mono hz _ _ hp)
        have h2 := H4.get (PP.mono hzz _ _ hp)
        have e' : h'.get? b = some ob := e
        have h1' : h'.get? b = some ob' := h1
        rw [h1'] at e'
        cases e'
        exact h2
    | brk => cases ho4; exact hR _ _ ⟨z4, .nxt, σ4, hzz, H4.drop, rfl, smm, hQ⟩
    | ret V => obtain ⟨u, rfl, hu⟩ := ho4; exact hR _ _ ⟨z4, .ret V, σ4, hzz, H4.drop, ⟨u, rfl, hu⟩, smm, hQ⟩
  · obtain rfl : i = n := by lia
    refine W.done _ _ _ hst' fun h' tk hk => ?_
    have keep : ∀ b ob, b ≠ I → s'.heap.get? b = some ob → h'.get? b = some ob := fun b ob hb e => hk b ob (by simpa using hb) e
    exact wpAny_execs_nil (hR _ _ ⟨z', .nxt, σ', hz, H'.dropI hI keep, rfl, sm.trans ⟨rfl, rfl, rfl⟩, done _ hJ⟩)
theorem At.new_off {o : Obj} (H : At c hid z env σ s) : ∀ q ∈ hid, s.heap.objs.size ≠ q.1 := fun q hq => by
  obtain ⟨m, own, X⟩ := H
  exact Nat.ne_of_gt (Heap.lt_size (X.x2 q (List.mem_append_right _ (List.mem_append_right _ hq))).1)
/-- for x in a list -/
theorem S1.forList (hx : Storable c x) (h : EV c c.env e σ fun a σ₁ => ∃ (xs : List V) (J : Nat → Sto → Prop), a = .lst xs ∧ J 0 σ₁ ∧ (∀ i σ (hi : i < xs.length), J i σ → ST c body (sput σ x (.frz xs[i])) (LE (J (i + 1)) Q)) ∧ ∀ σ, J xs.length σ → Q .nxt σ)
    (hs : ∀ v, foldedSetIterable e c.env v = pure v := by intro _; rfl) : S1 c (.For (.Name x px) e body [] pos) σ Q := fun hid z s H E => by
  refine wpAny_For (h.go H fun z₁ a σ₁ va s₁ hz₁ H₁ ha sm₁ hPat => ?_) hs
  obtain ⟨xs, J, e, h0, step, done⟩ := hPat
  subst e
  unfold VR at ha
  obtain ⟨ad, vs, k, rfl, hp, hr⟩ := ha
  have hg := H₁.get hp
  have hne : ad ≠ s₁.heap.objs.size := Nat.ne_of_lt (Heap.lt_size hg)
  refine wpAny_pyIter_list (isL hg) ?_
  have H₂ := H₁.pushH (o := { cls := .type "list_iterator", data := .fields #[.ref ad, .int 0 0] })
  have hlen : vs.toArray.size = xs.length := by rw [List.size_toArray, hr.len]
  have W := Walks.list (prog := c.prog) (w := c.w) (A := c.A) rfl s₁.heap.objs.size ad hne vs.toArray
  rw [hlen] at W
  refine forLoop_core (σ := σ₁) (z := z₁) (items := fun i => xs.getD i .none) W (fun i h st => let ⟨o, e, _⟩ := st.1; ⟨o, e⟩) (fun b hb => ?_) (fun i v hv => ?_) hx J (fun i σ hi hJ => ?_) done (H₁.new_off (o := default)) H₂ ⟨⟨_, Heap.get?_push_size _ rfl, rfl, rfl⟩, (isL hg).push _⟩ h0 (fun f s' x => x.from hz₁ (sm₁.trans ⟨rfl, rfl, rfl⟩))
  · rcases List.mem_cons.mp hb with h | h
    · exact .inl h
    · rw [List.mem_singleton.mp h]; exact .inr ⟨_, hp⟩
  · have hv' : vs[i]? = some v := by simpa using hv
    have hi : i < xs.length := by rw [← hr.len]; exact (List.getElem?_eq_some_iff.mp hv').1
    obtain ⟨u, hu, hw⟩ := hr.get (List.getElem?_eq_getElem hi)
    rw [hv'] at hu; cases hu
    rw [List.getD_eq_getElem?_getD, List.getElem?_eq_getElem hi]; exact hw
  · have := step i σ hi hJ
    rw [List.getD_eq_getElem?_getD, List.getElem?_eq_getElem hi]; exact this
end
end
section
open PySem PySem.W PySem.Spec PySem.Calls PyProof.Rows

section
variable {c : Cx} {env : Env} {z z' hid : List (Addr × Obj)} {σ σ' : Sto} {s s' s₁ : Shared} {x y : Str} {v : Value} {E : Value → Shared → Prop} {e l r : Expr} {es : List Expr} {pos p p' p'' spos px py : Pos} {Post : V → Sto → Prop} {P : V → Prop} {Ps : List V → Sto → Prop} {args : List V} {f : Addr} {n : Nat} {B : Bool → Prop} {Q : Out → Sto → Prop} {body : List Stmt}
noncomputable abbrev rangeObj (k : Nat) (t u v : Tok) : Obj := { cls := .type "range", data := .fields #[.int 0 t, .int k u, .int 1 v] }
theorem range_call {R : Nat → Sto → Prop} {KK : Value → Shared → Prop} (ok : c.Ok n) (hf : nsIn (K c.w.params) mainGlobals (.ofString "range") = some none) (hx : env.kindOf (.ofString "range") = some .globalImplicit)
    (h : EV c env e σ fun V σ₁ => ∃ k : Nat, V = .int k ∧ R k σ₁) (H : At c hid z env σ s) (he : starEach [e] env = [(false, eval e env)])
    (hk : ∀ z' k σ' r t u v s₁, Sub z z' → At c hid z' env σ' s₁ → PP c.base z' r (rangeObj k t u v) → Same s s₁ → R k σ' → KK (.ref r) s₁) :
    wpAny c.M c.A (eval (.Call (.Name (.ofString "range") p) [e] [] pos) env) KK E s := by
  show wpAny _ _ (do callWith pos (← eval (.Name (.ofString "range") p) env) [] (backTo pos (starEach [e] env)) (backToKw pos (keywordEach [] env))) _ _ s
  obtain ⟨m, F⟩ := H.fr
  obtain ⟨_, ek⟩ := H.envOk
  have TR := topRead_of ok.top
  refine wpAny_bind (Name_function_global ek.kind hx (loadGlobal_builtin (mg := c.mg) (mb := c.mb) (v := .type "range") (ek.globals ▸ TR.g.keeps H.base) (mg_none_of ok.kin TR.g hf) (ek.builtins ▸ TR.b.keeps H.base) ((TR.builtins _ (by decide)).trans (by rfl)) ?_) (by decide))
  rw [he]
  refine PySem.callWith_type rfl (Calls.evalArgs_plain (Calls.spliced_cons (h.go H fun z₁ V σ₁ v s₁ hz H₁ hv sm ⟨k, e, hR⟩ => Calls.spliced_nil ?_)))
  subst e
  unfold VR at hv
  obtain ⟨t, rfl⟩ := hv
  exact call_range_1 (hk _ k σ₁ _ _ _ _ _ (fun p hp => .tail _ (hz p hp)) ((H₁.pushZ (o := rangeObj k s₁.toks t (s₁.toks + 1))).toks) (.inr (.head _)) ⟨sm.1, sm.2.1, sm.2.2⟩ hR)
theorem rangeSize_nat (k : Nat) : Builtin.Range.rangeSize 0 k 1 = k := by
  unfold Builtin.Range.rangeSize
  simp only [show (1 : Int) > 0 by decide, if_true, Int.ediv_one]
  split <;> omega
theorem fitsLong {i : Int} (h0 : 0 ≤ i) (h1 : i < 2 ^ 62) : Builtin.Range.rangeFitsLong i = true := by
  unfold Builtin.Range.rangeFitsLong
  rw [decide_eq_true (by omega), decide_eq_true (by omega)]; rfl
theorem rangeSmall_nat {k : Nat} (h : k < 2 ^ 40) : Builtin.Range.small 0 k 1 = true := by
  unfold Builtin.Range.small
  rw [rangeSize_nat, fitsLong (by omega) (by omega), fitsLong (i := k) (by omega) (by omega), fitsLong (i := 1) (by omega) (by omega)]
  rw [if_pos (by decide), fitsLong (by omega) (by omega)]
  simp
/-- for x in range(e) -/
theorem S1.forRange (ok : c.Ok n) (hf : nsIn (K c.w.params) mainGlobals (.ofString "range") = some none) (hxr : c.env.kindOf (.ofString "range") = some .globalImplicit) (hx : Storable c x)
    (h : EV c c.env e σ fun a σ₁ => ∃ k : Nat, a = .int k ∧ k < 2 ^ 40 ∧ ∃ J : Nat → Sto → Prop, J 0 σ₁ ∧ (∀ i σ, i < k → J i σ → ST c body (sput σ x (.frz (.int i))) (LE (J (i + 1)) Q)) ∧ ∀ σ, J k σ → Q .nxt σ)
    (he : starEach [e] c.env = [(false, eval e c.env)] := by rfl)
    (hs : ∀ v, foldedSetIterable (.Call (.Name (.ofString "range") p) [e] [] p') c.env v = pure v := by intro _; rfl) : S1 c (.For (.Name x px) (.Call (.Name (.ofString "range") p) [e] [] p') body [] pos) σ Q := fun hid z s H E => by
  refine wpAny_For (range_call (R := fun k σ₁ => k < 2 ^ 40 ∧ ∃ J : Nat → Sto → Prop, J 0 σ₁ ∧ (∀ i σ, i < k → J i σ → ST c body (sput σ x (.frz (.int i))) (LE (J (i + 1)) Q)) ∧ ∀ σ, J k σ → Q .nxt σ)
    ok hf hxr h H he fun z₁ k σ₁ r t u v s₁ hz₁ H₁ hp sm₁ ⟨hk, J, h0, step, done⟩ => ?_) hs
  have hg := H₁.get hp
  refine wpAny_pyIter_range hg (rangeSmall_nat hk) ?_
  rw [rangeSize_nat]
  have H₂ := H₁.pushH (o := { cls := .type "range_iterator", data := .fields #[rawInt 0, rawInt k, rawInt 1] })
  have W := Walks.range (prog := c.prog) (w := c.w) (A := c.A) rfl s₁.heap.objs.size 0 1 k
  refine forLoop_core (σ := σ₁) (z := z₁) (items := fun i => .int i) W (fun i h st => ⟨_, st⟩) (fun b hb => .inl (List.mem_singleton.mp hb)) (fun i v ⟨t, hv⟩ => ?_) hx J step done (H₁.new_off (o := default)) H₂ ?_ h0 (fun f s' x => x.from hz₁ (sm₁.trans ⟨rfl, rfl, rfl⟩))
  · subst hv
    unfold VR
    exact ⟨t, by simp⟩
  · show IsRangeIter _ _ _ _ _
    simpa using Heap.get?_push_size _ rfl
/-- for x in a text -/
theorem S1.forStr (hx : Storable c x) (h : EV c c.env e σ fun a σ₁ => ∃ (y : Str) (J : Nat → Sto → Prop), a = .str y ∧ J 0 σ₁ ∧ (∀ i σ (hi : i < y.cps.size), J i σ → ST c body (sput σ x (.frz (.str ⟨#[y.cps[i]]⟩))) (LE (J (i + 1)) Q)) ∧ ∀ σ, J y.cps.size σ → Q .nxt σ)
    (hs : ∀ v, foldedSetIterable e c.env v = pure v := by intro _; rfl) : S1 c (.For (.Name x px) e body [] pos) σ Q := fun hid z s H E => by
  refine wpAny_For (h.go H fun z₁ a σ₁ va s₁ hz₁ H₁ ha sm₁ hPat => ?_) hs
  obtain ⟨y, J, e, h0, step, done⟩ := hPat
  subst e
  unfold VR at ha
  obtain ⟨t, rfl⟩ := ha
  have core : ∀ (o : Obj) (hf : o.isFreed = false) (St : Nat → Heap → Prop), Walks c.prog c.w c.A s₁.heap.objs.size [s₁.heap.objs.size] [s₁.heap.objs.size] y.cps.size (SignAt y) St → (∀ i h, St i h → ∃ o, h.get? s₁.heap.objs.size = some o) → St 0 (s₁.heap.push o) →
      codeAny c.M c.A (.forLoop (.Name x px) (.ref s₁.heap.objs.size) body [] c.env) (fun r s' => match r with | .ok f => SP c hid z s Q f s' | .error e => cameBackBy c.M c.A c.env E e s') { s₁ with heap := s₁.heap.push o } := fun o hf St W hobj hst => by
    refine forLoop_core (σ := σ₁) (z := z₁) (items := fun i => .str ⟨#[y.cps.getD i 0]⟩) W hobj (fun b hb => .inl (List.mem_singleton.mp hb)) (fun i v ⟨cc, u, hcc, hv⟩ => ?_) hx J (fun i σ hi hJ => ?_) done (H₁.new_off (o := default)) (H₁.pushH hf) hst h0 (fun f s' x => x.from hz₁ (sm₁.trans ⟨rfl, rfl, rfl⟩))
    · subst hv
      unfold VR
      exact ⟨u, by simp [Array.getD_eq_getD_getElem?, hcc]⟩
    · have := step i σ hi hJ
      have e : y.cps.getD i 0 = y.cps[i] := by simp [Array.getD_eq_getD_getElem?, hi]
      rw [e]; exact this
  cases ha : y.cps.all (· < 128)
  · exact wpAny_pyIter_wide ha (core _ rfl _ (Walks.strWide rfl _ y t) (fun i h hPat => by obtain ⟨o, e, _⟩ := hPat; exact ⟨o, e⟩) ⟨_, Heap.get?_push_size _ rfl, rfl, rfl⟩)
  · exact wpAny_pyIter_ascii ha (core _ rfl _ (Walks.strAscii rfl _ y t) (fun i h hPat => by obtain ⟨o, e, _⟩ := hPat; exact ⟨o, e⟩) ⟨_, Heap.get?_push_size _ rfl, rfl, rfl⟩)
/-- while -/
theorem S1.while_ {t : Expr} {k : Nat} (J : Nat → Sto → Prop) (h0 : J k σ)
    (turn : ∀ k σ, J k σ → TV c c.env t σ fun b σ₁ => if b then ST c body σ₁ (LE (fun σ' => ∃ k', k' < k ∧ J k' σ') Q) else Q .nxt σ₁) : S1 c (.While t body [] pos) σ Q := fun hid z s H E => by
  rw [exec_While]
  refine wpAny_bind (wpAny_standAt (wpAny_runOwn ?_))
  refine codeAny_whileLoop (fun k s' => ∃ z' σ', Sub z z' ∧ At c hid z' c.env σ' s' ∧ Same s s' ∧ J k σ') ?_ k ⟨z, σ, fun _ h => h, H, ⟨rfl, rfl, rfl⟩, h0⟩
  rintro k s₁ ⟨z₁, σ₁, hz₁, H₁, sm₁, hJ⟩
  refine wpAny_mono (turn k σ₁ hJ hid z₁ s₁ H₁ _) (fun b s₂ hPat => ?_) fun _ _ e => e
  obtain ⟨z₂, σ₂, hz₂, H₂, sm₂, h₂⟩ := hPat
  have hz : Sub z z₂ := fun p hp => hz₂ p (hz₁ p hp)
  cases b with
  | false => exact wpAny_execs_nil ⟨z₂, .nxt, σ₂, hz, H₂, rfl, sm₁.trans sm₂, by simpa using h₂⟩
  | true =>
    refine wpAny_mono ((by simpa using h₂ : ST c body σ₂ (LE (fun σ' => ∃ k', k' < k ∧ J k' σ') Q)) hid z₂ s₂ H₂ _) (fun f s₃ hPat => ?_) fun _ _ e => e
    obtain ⟨z₃, o, σ₃, hz₃, H₃, ho, sm₃, h₃⟩ := hPat
    have hzz : Sub z z₃ := fun p hp => hz₃ p (hz p hp)
    have smm := sm₁.trans (sm₂.trans sm₃)
    cases o with
    | nxt => cases ho; obtain ⟨k', hk', hJ'⟩ := h₃; exact ⟨k', hk', z₃, σ₃, hzz, H₃, smm, hJ'⟩
    | brk => cases ho; exact ⟨z₃, .nxt, σ₃, hzz, H₃, rfl, smm, h₃⟩
    | ret V => obtain ⟨u, rfl, hu⟩ := ho; exact ⟨z₃, .ret V, σ₃, hzz, H₃, ⟨u, rfl, hu⟩, smm, h₃⟩
/-! a name changed in its place -/
noncomputable def InOk (c : Cx) (op : Operator) (a b : V) (P : V → Prop) : Prop :=
  ∀ env σ hid z s va vb, At c hid z env σ s → VR (PP c.base z) a va → VR (PP c.base z) b vb → ∀ E, wpAny c.M c.A (inplaceOp op va vb) (EP c hid z env s (fun V σ' => P V ∧ σ' = σ)) E s
theorem InOk.addInt {i j : Int} (h : P (.int (i + j))) : InOk c .Add (.int i) (.int j) P := fun env σ hid z s va vb H ha hb E => by
  unfold VR at ha hb; obtain ⟨t, rfl⟩ := ha; obtain ⟨u, rfl⟩ := hb
  exact iadd_int (EP.int H ⟨h, rfl⟩)
theorem InOk.addStr {a b : Str} (hl : (a ++ b).length ≤ sizeLine) (h : P (.str (a ++ b))) : InOk c .Add (.str a) (.str b) P := fun env σ hid z s va vb H ha hb E => by
  unfold VR at ha hb; obtain ⟨t, rfl⟩ := ha; obtain ⟨u, rfl⟩ := hb
  exact PySem.P.iadd_str (made_str H ⟨h, rfl⟩ hl)
theorem Src.loadN {m : Pin} {all : List (Addr × Obj)} {Q : Value → Shared → Prop} (S : Src c env m all x v) (hk : env.scope.kind = .function) (F : Fr m.g c.L s.heap m.m) (N : News m.g c.L s.heap all)
    (h : Q v s) (h2 : (x == ("__classdict__" : Str)) = false) : wpAny c.M c.A (loadName env x) Q E s := by
  rcases S with ⟨k, ⟨a, b⟩ | ⟨oC, m₂, a, b, d⟩⟩ | ⟨k, cd, o, a, b, d⟩
  · exact wpAny_loadName_local hk k (a ▸ F.ns) b h
  · exact wpAny_loadName_local hk k (b.ns (N _ a).1) d h
  · rcases k with k | k
    · exact wpAny_loadName_cell hk k a ⟨o, (N _ b).1, d⟩ h
    · exact wpAny_loadName_free hk k a ⟨o, (N _ b).1, d⟩ h h2
theorem S1.aug {op : Operator} {A : V} (hk : Storable c x) (hx : sget σ x = some (.frz A)) (h : EV c c.env e σ fun W σ₁ => InOk c op A W fun U => Q .nxt (sput σ₁ x (.frz U))) (h2 : (x == ("__classdict__" : Str)) = false := by decide) :
    S1 c (.AugAssign (.Name x p) op e pos) σ Q := fun hid z s H E => by
  obtain ⟨m, own, X⟩ := id H
  obtain ⟨F, N, S1, S2, k, V, U, C⟩ := id X
  obtain ⟨v, hs, hv⟩ := V x _ hx
  refine wpAny_AugAssign_Name (hs.loadN k.kind F N (h.go H fun z₁ W σ₁ u s₁ hz H₁ hu sm hi => ?_) h2)
  refine wpAny_mono (hi c.env σ₁ hid z₁ s₁ v u H₁ (hv.mono (PP.mono hz)) hu E) (fun w s₂ hPat => ?_) fun _ _ e => e
  obtain ⟨z₂, U, σ₂, hz₂, H₂, hw, sm₂, hQ, e⟩ := hPat
  subst e
  exact wpAny_mono (H₂.store hw hk) (fun _ s₃ hPat => by obtain ⟨H₃, sm₃⟩ := hPat; exact ⟨z₂, .nxt, _, fun p hp => hz₂ p (hz p hp), H₃, rfl, sm.trans (sm₂.trans sm₃), hQ⟩) fun _ _ e => e
/-! an item stored -/
theorem S1.setItem {idx : Expr} (h : EV c c.env e σ fun W σ₁ => ∃ b xs, sget σ₁ x = some (.own b xs) ∧ EV c c.env idx σ₁ fun i σ₂ => ∃ xs k, i = .int k ∧ sget σ₂ x = some (.own b xs) ∧ 0 ≤ k ∧ k < xs.length ∧ xs.length < 2 ^ 62 ∧ Q .nxt (sput σ₂ x (.own b (xs.set k.toNat W))))
    (hs : swapsWith e (some (.Subscript (.Name x p) idx p')) pos.line c.env = pure false := by rfl) (h1 : (x == ("__debug__" : Str)) = false := by decide) (h2 : (x == ("__classdict__" : Str)) = false := by decide) :
    S1 c (.Assign [.Subscript (.Name x p) idx p'] e pos) σ Q := fun hid z s H E => by
  refine wpAny_Assign_Subscript (h.go H fun z₁ W σ₁ v s₁ hz H₁ hv sm hPat => ?_) hs
  obtain ⟨b, xs, hx, hi⟩ := hPat
  obtain ⟨a, vs, k, load, hg, hr, w⟩ := H₁.peek (.own hx) h1 h2
  have hab : a = b := by
    rcases w with ⟨b', e, rfl⟩ | ⟨b', e, rfl⟩ | ⟨e, _⟩ <;> (rw [hx] at e; cases e; try rfl)
  subst hab
  refine load _ _ _ (hi.go H₁ fun z₂ i σ₂ vi s₂ hz₂ H₂ hvi sm₂ hPat => ?_)
  obtain ⟨xs', k, e, hx', h0, hlt, hl, hQ⟩ := hPat
  subst e
  unfold VR at hvi
  obtain ⟨t, rfl⟩ := hvi
  exact wpAny_mono (set_list H₂ hx' (hv.mono (PP.mono hz₂)) h0 hlt hl hQ) (fun _ _ x => x.from (fun p hp => hz₂ p (hz p hp)) (sm.trans sm₂)) fun _ _ e => e
theorem S1.augItem {idx : Expr} {b : Addr} {xs : List V} (hx : sget σ x = some (.own b xs)) (h : EV c c.env idx σ fun i σ₁ => ∃ k j, i = .int k ∧ sget σ₁ x = some (.own b xs) ∧ 0 ≤ k ∧ xs[k.toNat]? = some (.int j) ∧ xs.length < 2 ^ 62 ∧
      EV c c.env e σ₁ fun W σ₂ => ∃ d, W = .int d ∧ sget σ₂ x = some (.own b xs) ∧ Q .nxt (sput σ₂ x (.own b (xs.set k.toNat (.int (j + d))))))
    (ha : ∀ ov iv new, augStore idx ov iv new = (do holding [new, ov, iv] (PySem.setItem ov iv new); release [new, ov, iv] []; pure .next) := by intro _ _ _; rfl) (h1 : (x == ("__debug__" : Str)) = false := by decide) (h2 : (x == ("__classdict__" : Str)) = false := by decide) :
    S1 c (.AugAssign (.Subscript (.Name x p) idx p') .Add e pos) σ Q := fun hid z s H E => by
  obtain ⟨a, vs, n, load, hg, hr, w⟩ := H.peek (.own hx) h1 h2
  have hab : a = b := by
    rcases w with ⟨b', e, rfl⟩ | ⟨b', e, rfl⟩ | ⟨e, _⟩ <;> (rw [hx] at e; cases e; try rfl)
  subst hab
  refine wpAny_AugAssign_Subscript_any (load _ _ _ (h.go H fun z₁ i σ₁ vi s₁ hz H₁ hvi sm hPat => ?_)) ha
  obtain ⟨k, j, e, hx₁, h0, hj, hl, hv⟩ := hPat
  subst e
  unfold VR at hvi
  obtain ⟨t, rfl⟩ := hvi
  obtain ⟨m, own, X⟩ := id H₁
  obtain ⟨_, vs', n', hm, hr'⟩ := X.x6 x _ hx₁
  have hg' := (X.x2 _ (List.mem_append_left _ hm)).1
  have hlt := (List.getElem?_eq_some_iff.mp hj).1
  obtain ⟨u, hu, hw⟩ := hr'.get hj
  unfold VR at hw
  obtain ⟨t', rfl⟩ := hw
  refine wpAny_getItem_list (isL hg') h0 (by omega) (by simpa using hu) ?_
  refine hv.go H₁ fun z₂ W σ₂ vw s₂ hz₂ H₂ hvw sm₂ hPat => ?_
  obtain ⟨d, e, hx₂, hQ⟩ := hPat
  subst e
  unfold VR at hvw
  obtain ⟨t'', rfl⟩ := hvw
  refine iadd_int ?_
  exact wpAny_mono (set_list (H₂.toks) hx₂ (by unfold VR; exact ⟨_, rfl⟩) h0 (by omega) hl hQ) (fun _ _ x => x.from (fun p hp => hz₂ p (hz p hp)) (sm.trans (sm₂.trans ⟨rfl, rfl, rfl⟩))) fun _ _ e => e
end
end
section
open PySem PySem.W PySem.Spec PySem.Calls PyProof.Rows PyProof.Rows.LCg

section
variable {c : Cx} {env : Env} {own z z' hid : List (Addr × Obj)} {σ σ' : Sto} {s s' s₁ : Shared} {x y : Str} {v : Value} {E : Value → Shared → Prop} {e l r elt iter : Expr} {es : List Expr} {pos p p' p'' spos px py : Pos} {Post : V → Sto → Prop} {P : V → Prop} {Ps : List V → Sto → Prop} {args : List V} {f : Addr} {n : Nat} {Q : Out → Sto → Prop} {m : Pin} {scope : Scope} {cl : List (Str × Addr)} {ys : List Str} {g : Nat → V}
noncomputable abbrev Cx.pinned (c : Cx) (m : Pin) : Cx := { c with pin := some m, h₀ := m.g, still := true }
theorem Cx.Ok.pinned (h : c.Ok n) (m : Pin) : (c.pinned m).Ok n := ⟨h.kin, h.top, h.code1, h.code2, h.fn, h.room, h.units⟩
noncomputable def LV.toBrw : LV → LV
  | .own b xs => .brw b xs
  | l => l
/-- what a comprehension's element sees -/
noncomputable def csto (x : Str) (V : V) (σ : Sto) : List Str → Sto
  | [] => [(x, .frz V)]
  | y :: r => match sget σ y with
    | some l => (y, l.toBrw) :: csto x V σ r
    | none => csto x V σ r
theorem csto_get {V : V} {l : LV} : ∀ {ys : List Str}, sget (csto x V σ ys) y = some l → (y = x ∧ l = .frz V) ∨ (y ∈ ys ∧ ∃ l₀, sget σ y = some l₀ ∧ l = l₀.toBrw)
  | [], h => by
    unfold csto sget at h
    rw [List.lookup_cons] at h
    cases e : y == x with
    | true => rw [e] at h; cases h; exact .inl ⟨beq_iff_eq.mp e, rfl⟩
    | false => rw [e] at h; cases h
  | u :: r, h => by
    unfold csto at h
    cases hu : sget σ u with
    | none =>
      rw [hu] at h
      exact (csto_get (ys := r) h).imp id fun hPat => by obtain ⟨a, b⟩ := hPat; exact ⟨.tail _ a, b⟩
    | some l₀ =>
      rw [hu] at h
      unfold sget at h
      rw [List.lookup_cons] at h
      cases e : y == u with
      | true =>
        rw [e] at h; cases h
        have := beq_iff_eq.mp e
        subst this
        exact .inr ⟨.head _, l₀, hu, rfl⟩
      | false =>
        rw [e] at h
        exact (csto_get (ys := r) h).imp id fun hPat => by obtain ⟨a, b⟩ := hPat; exact ⟨.tail _ a, b⟩
structure CompOk (c : Cx) (env : Env) (x : Str) (scope : Scope) (cl : List (Str × Addr)) (ys : List Str) : Prop where
  clos : closureFor scope env = pure cl
  nocell : ∀ y ∈ scope.names, y.2 ≠ .cell
  kind : scope.kind = .function
  names : ∀ y ∈ scope.names, y.2 = .local → scope.names.lookup y.1 = some .local
  hx : scope.names.lookup x = some .local
  free : ∀ y ∈ ys, (relabel scope env).names.lookup y = some .cell ∧ cl.lookup y = env.cells.lookup y ∧ env.kindOf y = some .cell
theorem comp_at (X : AtX (c.pinned m) hid z env σ s₁ m own) (CO : CompOk c env x scope cl ys) {I C D : Addr} {oI oC : Obj} {us : List Value} {z' : List (Addr × Obj)} {h : Heap} {tk : Nat} {m₂ : Str → Option Value} {W : V}
    {own' : List (Addr × Obj)} (hz : Sub z z') (ho : SubN own own') (tb : Tb c.keep z' own') (S1 : Sep own' (z' ++ hid)) (S2 : Sep z' hid) (F : Fr m.g c.L h m.m) (N : News m.g c.L h ((I, oI) :: (C, oC) :: (D, lst us) :: (own' ++ (z' ++ hid)))) (off : Off3 I C D (own' ++ (z' ++ hid))) (hN : NsObj oC m₂) (hm : m₂ x = some v) (hv : VR (PP c.base z') W v) :
    At (c.pinned m) ((I, oI) :: (C, oC) :: (D, lst us) :: (restOf own' ++ hid)) z' (compEnvC scope cl C env) (csto x W σ ys) { s with heap := h, toks := tk } := by
  have ofR : ∀ {p}, p ∈ restOf own' → p ∈ own' := fun h => (List.mem_filter.mp h).1
  have ofT : ∀ {p}, p ∈ tabsOf own' → p ∈ own' := fun h => (List.mem_filter.mp h).1
  have N0 : News m.g c.L h (own' ++ (z' ++ hid)) := fun q hq => N q (.tail _ (.tail _ (.tail _ hq)))
  have nt : ∀ {p}, p ∈ own → NT p → p ∈ restOf own' := fun hp hn => mem_rest (ho _ hp hn) (tb.nt N0 (ho _ hp hn) hn)
  have perm : ∀ q, q ∈ tabsOf own' ++ (z' ++ ((I, oI) :: (C, oC) :: (D, lst us) :: (restOf own' ++ hid))) → q ∈ (I, oI) :: (C, oC) :: (D, lst us) :: (own' ++ (z' ++ hid)) := fun q => by
    have a := @ofR q
    have b := @ofT q
    simp only [List.mem_append, List.mem_cons, List.nil_append]; grind
  have om := off.mem
  have inz : ∀ {q}, q ∈ z' → q ∈ own' ++ (z' ++ hid) := fun h => List.mem_append_right _ (List.mem_append_left _ h)
  obtain ⟨F₀, N₀, S1₀, S2₀, k, V, U, C₀⟩ := X
  have all : SubN (own ++ (z ++ hid)) (tabsOf own' ++ (z' ++ ((I, oI) :: (C, oC) :: (D, lst us) :: (restOf own' ++ hid)))) := fun q hq hn => by
    have a := hz q
    have b := @nt q
    simp only [List.mem_append, List.mem_cons, List.nil_append] at hq ⊢; grind
  refine ⟨m, tabsOf own', F, fun q hq => N q (perm q hq), fun q hq r hr => ?_, fun q hq r hr => ?_, ⟨k.gok, ?_, k.globals, k.builtins, k.pin⟩, fun y l hy => ?_, fun y y' b ws us hy hy' => ?_, fun e => ?_, tb.tabs⟩
  · have hqt := ofT hq
    have mo := om q (List.mem_append_left _ hqt)
    rcases List.mem_append.mp hr with hr | hr
    · exact S1 q hqt r (List.mem_append_left _ hr)
    · rcases List.mem_cons.mp hr with rfl | hr
      · exact mo.1
      · rcases List.mem_cons.mp hr with rfl | hr
        · exact mo.2.1
        · rcases List.mem_cons.mp hr with rfl | hr
          · exact mo.2.2
          · rcases List.mem_append.mp hr with hr | hr
            · exact tab_ne (List.mem_filter.mp hq).2 (by have := (List.mem_filter.mp hr).2; simpa using this)
            · exact S1 q hqt r (List.mem_append_right _ hr)
  · rcases List.mem_cons.mp hr with rfl | hr
    · exact (om q (inz hq)).1
    · rcases List.mem_cons.mp hr with rfl | hr
      · exact (om q (inz hq)).2.1
      · rcases List.mem_cons.mp hr with rfl | hr
        · exact (om q (inz hq)).2.2
        · rcases List.mem_append.mp hr with hr | hr
          · exact Ne.symm (S1 r (ofR hr) q (List.mem_append_left _ hq))
          · exact S2 q hq r hr
  · exact CO.kind
  · rcases csto_get hy with ⟨rfl, rfl⟩ | ⟨hys, l₀, hl₀, rfl⟩
    · refine ⟨v, .inl ⟨lookup_relabel_local CO.hx, .inr ⟨oC, m₂, ?_, hN, hm⟩⟩, hv⟩
      exact List.mem_append_right _ (List.mem_append_right _ (.tail _ (.head _)))
    · obtain ⟨f1, f2, f3⟩ := CO.free y hys
      have src : ∀ u, Src (c.pinned m) env m (own ++ (z ++ hid)) y u → Src (c.pinned m) (compEnvC scope cl C env) m (tabsOf own' ++ (z' ++ ((I, oI) :: (C, oC) :: (D, lst us) :: (restOf own' ++ hid)))) y u := fun u hs => by
        rcases hs with ⟨k', _⟩ | ⟨_, cd, o, a, b, d⟩
        · rw [f3] at k'; cases k'
        · exact .inr ⟨.inl f1, cd, o, f2.trans a, all _ b (.cell d), d⟩
      have := V y l₀ hl₀
      cases l₀ with
      | frz A => obtain ⟨u, a, b⟩ := this; exact ⟨u, src u a, VR.mono (PP.mono hz) b⟩
      | own q A => obtain ⟨a, us', n', b, d⟩ := this; exact ⟨src _ a, us', n', by simp only [List.mem_append, List.mem_cons]; exact .inr (.inr (.inr (.inr (.inl (nt b .lobj))))), VRs.mono (PP.mono hz) d⟩
      | brw q A =>
        obtain ⟨a, us', n', b, d⟩ := this
        refine ⟨src _ a, us', n', ?_, VRs.mono (PP.mono hz) d⟩
        have := hz (q, lobj us' n')
        simp only [List.mem_append, List.mem_cons] at b ⊢; grind
      | raw w => exact src w this
  · rcases csto_get hy with ⟨_, e⟩ | ⟨_, l₀, _, e⟩
    · cases e
    · cases l₀ <;> cases e
  · have hC := (N (C, oC) (by simp)).2.1
    have : (compEnvC scope cl C env).locals = (c.pinned m).env.locals := by rw [e]
    exact absurd this hC
theorem same_eq {s s' : Shared} (h : Same s s') : s' = { s with heap := s'.heap, toks := s'.toks } := by
  obtain ⟨a, b, d⟩ := h
  cases s; cases s'
  simp_all
theorem comp_rest (X : AtX (c.pinned m) hid z env σ s₁ m own) (CO : CompOk c env x scope cl ys) {n : Nat} {PI : Nat → Value → Prop} {items : Nat → V} {S : List (Addr × Obj) → Prop} {Fin : List Value → List (Addr × Obj) → Prop} {s₂ : Shared}
    (hs₂ : Same s₁ s₂) (hit : ∀ i v, PI i v → VR (PP c.base z) (items i) v) (hS : ∀ own' z', SubN own own' → Sub z z' → S (own' ++ (z' ++ hid)))
    (turn : ∀ i C, i < n → EV (c.pinned m) (compEnvC scope cl C env) elt (csto x (items i) σ ys) fun V _ => V = g i)
    (fin : ∀ us z' own', Sub z z' → SubN own own' → Tb c.keep z' own' → Sep own' (z' ++ hid) → Sep z' hid → VRs (PP c.base z') ((List.range n).map g) us → Fin us (own' ++ (z' ++ hid))) :
    ∀ k i us z' own', i + k = n → Sub z z' → SubN own own' → Tb c.keep z' own' → Sep own' (z' ++ hid) → Sep z' hid → VRs (PP c.base z') ((List.range i).map g) us → CompRest c.prog c.w c.A m.g c.L m.m env elt x scope cl s₂ S PI Fin k i us (own' ++ (z' ++ hid)) := by
  intro k
  induction k with
  | zero =>
    intro i us z' own' e hz ho tb S1 S2 hv
    obtain rfl : i = n := by lia
    exact fin us z' own' hz ho tb S1 S2 hv
  | succ k ih =>
    intro i us z' own' e hz ho tb S1 S2 hv
    refine CompRest.succ fun v I oI C oC D m₂ h tk E' hP hN hm F N off dist => ?_
    have ofR : ∀ {p}, p ∈ restOf own' → p ∈ own' := fun h => (List.mem_filter.mp h).1
    have N0 : News m.g c.L h (own' ++ (z' ++ hid)) := fun q hq => N q (.tail _ (.tail _ (.tail _ hq)))
    have nt : ∀ {p}, p ∈ own → NT p → p ∈ restOf own' := fun hp hn => mem_rest (ho _ hp hn) (tb.nt N0 (ho _ hp hn) hn)
    have H := comp_at (s := s₂) (tk := tk) (W := items i) X CO hz ho tb S1 S2 F N off hN hm ((hit i v hP).mono (PP.mono hz))
    refine wpAny_mono (turn i C (by lia) _ _ _ H E') (fun y s₄ hPat => ?_) fun _ _ e => e
    obtain ⟨z4, V, σ4, hz4, H4, hv4, sm4, e4⟩ := hPat
    subst e4
    obtain ⟨m4, own4, F4, N4, S14, S24, k4, _, _, _, tb4⟩ := H4
    have ofT4 : ∀ {p}, p ∈ tabsOf own4 → p ∈ own4 := fun h => (List.mem_filter.mp h).1
    obtain rfl : m4 = m := k4.pin m rfl
    have e4 : s₄ = { { s₂ with heap := h, toks := tk } with heap := s₄.heap, toks := s₄.toks } := same_eq sm4
    rw [e4]
    have hzz : Sub z z4 := fun p hp => hz4 p (hz p hp)
    have S1' : Sep (tabsOf own4 ++ restOf own') (z4 ++ hid) := fun p hp q hq => by
      rcases List.mem_append.mp hp with hp | hp
      · rcases List.mem_append.mp hq with hq | hq
        · exact S14 p (ofT4 hp) q (List.mem_append_left _ hq)
        · exact S14 p (ofT4 hp) q (List.mem_append_right _ (.tail _ (.tail _ (.tail _ (List.mem_append_right _ hq)))))
      · rcases List.mem_append.mp hq with hq | hq
        · exact Ne.symm (S24 q hq p (.tail _ (.tail _ (.tail _ (List.mem_append_left _ hp)))))
        · exact S1 p (ofR hp) q (List.mem_append_right _ hq)
    have S2' : Sep z4 hid := fun p hp q hq => S24 p hp q (by simp [hq])
    have ho' : SubN own (tabsOf own4 ++ restOf own') := fun p hp hn => List.mem_append_right _ (nt hp hn)
    refine CompEnd.intro F4 N4 ((tabsOf own4 ++ restOf own') ++ (z4 ++ hid)) (fun p hp => ?_) (Off3.of fun p hp => ?_) (hS _ z4 ho' hzz) (ih (i + 1) _ z4 _ (by lia) hzz ho' (tb4.tabs.mono (fun _ h => h) fun _ _ h => List.mem_append_left _ h) S1' S2' ?_)
    · have a := @ofT4 p
      simp only [List.mem_append, List.mem_cons] at hp ⊢; grind
    · rcases List.mem_append.mp hp with hp | hp
      · rcases List.mem_append.mp hp with hp | hp
        · exact ⟨S14 p (ofT4 hp) (I, oI) (by simp), S14 p (ofT4 hp) (C, oC) (by simp), S14 p (ofT4 hp) (D, lst us) (by simp)⟩
        · exact off.mem p (List.mem_append_left _ (ofR hp))
      · rcases List.mem_append.mp hp with hp | hp
        · exact ⟨S24 p hp (I, oI) (by simp), S24 p hp (C, oC) (by simp), S24 p hp (D, lst us) (by simp)⟩
        · exact off.mem p (List.mem_append_right _ (List.mem_append_right _ hp))
    · rw [List.range_succ, List.map_append]
      exact (hv.mono (PP.mono hz4)).app (VRs.cons hv4 VRs.nil)
theorem off1_mem {D : Addr} : ∀ {l : List (Addr × Obj)}, Off1 D l → ∀ p ∈ l, p.1 ≠ D
  | [], _, p, hp => by cases hp
  | q :: r, off, p, hp => by
    rcases List.mem_cons.mp hp with rfl | hp
    · exact off.1
    · exact off1_mem off.2 p hp
/-- the list that a comprehension makes: an end for each of the library's two roads -/
theorem comp_end (X : AtX (c.pinned m) hid z env σ s₁ m own) (G : GOk c m.g) (hp : c.pin = none) {D : Addr} {h : Heap} {tk : Nat} {us : List Value} {W : List V} {own' : List (Addr × Obj)} (hz : Sub z z') (ho : SubN own own') (tb : Tb c.keep z' own') (S1 : Sep own' (z' ++ hid)) (S2 : Sep z' hid) (F : Fr m.g c.L h m.m)
    (N : News m.g c.L h ((D, lst us) :: (own' ++ (z' ++ hid)))) (off : Off1 D (own' ++ (z' ++ hid))) : At c ((D, lst us) :: hid) z' env σ { s with heap := h, toks := tk } ∧ ∀ q ∈ hid, D ≠ q.1 := by
  have om := off1_mem off
  obtain ⟨F₀, N₀, S1₀, S2₀, k, V, U, C₀⟩ := X
  refine ⟨⟨m, own', F, fun q hq => N q ?_, fun q hq r hr => ?_, fun q hq r hr => ?_, ⟨G, k.kind, k.globals, k.builtins, fun m₀ e => by rw [hp] at e; cases e⟩, fun y l hy => VarOk.monoN (c := c) ho hz (fun _ h => .tail _ h) (V y l hy), U, fun e => ⟨fun x cd hx => let ⟨o, v₀, a, d⟩ := (C₀.1 e).1 x cd hx; ⟨o, v₀, a.imp (fun a => ho _ a (.cell d)) id, d⟩, (C₀.1 e).2⟩, tb⟩, fun q hq => Ne.symm (om q (by simp [hq]))⟩
  · simp only [List.mem_append, List.mem_cons] at hq ⊢; grind
  · rcases List.mem_append.mp hr with hr | hr
    · exact S1 q hq r (List.mem_append_left _ hr)
    · rcases List.mem_cons.mp hr with rfl | hr
      · exact om q (by simp [hq])
      · exact S1 q hq r (List.mem_append_right _ hr)
  · rcases List.mem_cons.mp hr with rfl | hr
    · exact om q (by simp [hq])
    · exact S2 q hq r hr
/-- where a comprehension's items come from -/
noncomputable def SrcV (c : Cx) (env : Env) (iter : Expr) (σ : Sto) (R : Nat → (Nat → V) → Sto → Prop) : Prop :=
  ∀ (Fin : Shared → List Value → List (Addr × Obj) → Prop) (elt : Expr) (x : Str) (scope : Scope) (cl : List (Str × Addr)) (hid z : List (Addr × Obj)) (s : Shared) (m : Pin) (E : Value → Shared → Prop), At (c.pinned m) hid z env σ s →
    (∀ (z₁ : List (Addr × Obj)) (n : Nat) (items : Nat → V) (σ₁ : Sto) (s₁ : Shared) (own : List (Addr × Obj)) (PI : Nat → Value → Prop) (S : List (Addr × Obj) → Prop), Sub z z₁ → Same s s₁ → AtX (c.pinned m) hid z₁ env σ₁ s₁ m own → R n items σ₁ → (∀ i v, PI i v → VR (PP c.base z₁) (items i) v) → (∀ own' z', SubN own own' → Sub z₁ z' → S (own' ++ (z' ++ hid))) →
      ∀ s₂, Same s₁ s₂ → CompRest c.prog c.w c.A m.g c.L m.m env elt x scope cl s₂ S PI (Fin s₂) n 0 [] (own ++ (z₁ ++ hid))) →
    wpAny c.M c.A (eval iter env) (CompSrc c.prog c.w c.A m.g c.L m.m env elt x scope cl Fin) E s
theorem SrcV.list {R : Nat → (Nat → V) → Sto → Prop} (h : ∀ m, EV (c.pinned m) env iter σ fun a σ₁ => ∃ xs, a = .lst xs ∧ xs.length ≤ sizeLine ∧ R xs.length (fun i => xs.getD i .none) σ₁) : SrcV c env iter σ R := by
  intro Fin elt x scope cl hid z s m E H k
  refine wpAny_mono (h m hid z s H E) (fun va s₁ hPat => ?_) fun _ _ e => e
  obtain ⟨z₁, a, σ₁, hz₁, H₁, ha, sm₁, xs, e, hl, hR⟩ := hPat
  subst e
  unfold VR at ha
  obtain ⟨ad, vs, q, rfl, hp, hr⟩ := ha
  obtain ⟨m₁, own, X⟩ := H₁
  obtain rfl : m₁ = m := X.x5.pin m rfl
  have hlen : vs.toArray.size = xs.length := by rw [List.size_toArray, hr.len]
  refine .inl ⟨ad, vs.toArray, _, rfl, rfl, X.x1, X.x2, ?_, by rw [hlen]; exact hl, fun s₂ ⟨g, e⟩ => ?_⟩
  · rcases hp with hp | hp
    · exact .inl ⟨_, X.x5.stays _ _ hp, rfl, q, rfl⟩
    · exact .inr ⟨_, List.mem_append_right _ (List.mem_append_left _ hp), rfl, q, rfl⟩
  · rw [hlen]
    refine k z₁ xs.length _ σ₁ s₁ own _ _ hz₁ sm₁ X hR (fun i v hv => ?_) (fun own' z' ho' hz' => ?_) s₂ (by subst e; exact ⟨rfl, rfl, rfl⟩)
    · have hv' : vs[i]? = some v := by simpa using hv
      have hi : i < xs.length := by rw [← hr.len]; exact (List.getElem?_eq_some_iff.mp hv').1
      obtain ⟨u, hu, hw⟩ := hr.get (List.getElem?_eq_getElem hi)
      rw [hv'] at hu; cases hu
      rw [List.getD_eq_getElem?_getD, List.getElem?_eq_getElem hi]; exact hw
    · rcases hp with hp | hp
      · exact .inl ⟨_, X.x5.stays _ _ hp, rfl, q, rfl⟩
      · exact .inr ⟨_, List.mem_append_right _ (List.mem_append_left _ (hz' _ hp)), rfl, q, rfl⟩
theorem SrcV.range {R : Nat → (Nat → V) → Sto → Prop} (ok : c.Ok n) (hf : nsIn (K c.w.params) mainGlobals (.ofString "range") = some none) (hx : env.kindOf (.ofString "range") = some .globalImplicit) (h : ∀ m, EV (c.pinned m) env e σ fun a σ₁ => ∃ k : Nat, a = .int k ∧ k ≤ 2 ^ 20 ∧ R k (fun i => .int i) σ₁)
    (he : starEach [e] env = [(false, eval e env)] := by rfl) : SrcV c env (.Call (.Name (.ofString "range") p) [e] [] pos) σ R := by
  intro Fin elt x scope cl hid z s m E H k
  refine range_call (c := c.pinned m) (R := fun k σ₁ => k ≤ 2 ^ 20 ∧ R k (fun i => .int i) σ₁) (ok.pinned m) hf hx (h m) H he fun z₁ q σ₁ r t u v s₁ hz₁ H₁ hp sm₁ hPat => ?_
  obtain ⟨hq, hR⟩ := hPat
  obtain ⟨m₁, own, X⟩ := id H₁
  obtain rfl : m₁ = m := X.x5.pin m rfl
  have hg := H₁.get hp
  refine .inr ⟨r, 0, q, t, u, v, q, _, rfl, rfl, X.x1, X.x2, hg, rangeSmall_nat (by lia), rangeSize_nat q, by unfold sizeLine; lia, fun s₂ hPat => ?_⟩
  obtain ⟨g, e⟩ := hPat
  exact k z₁ q _ σ₁ s₁ own _ _ hz₁ sm₁ X hR (fun i v ⟨t, hv⟩ => by subst hv; unfold VR; exact ⟨t, by simp⟩) (fun _ _ _ _ => trivial) s₂ (by subst e; exact ⟨rfl, rfl, rfl⟩)
theorem At.pin (H : At c hid z env σ s) (hp : c.pin = none) : ∃ m : Pin, At (c.pinned m) hid z env σ s ∧ Fr m.g c.L s.heap m.m ∧ GOk c m.g := by
  obtain ⟨m, own, F, N, S1, S2, k, V, U, C⟩ := H
  exact ⟨m, ⟨m, own, F, N, S1, S2, ⟨⟨KtsTurn.refl, k.gok.below, k.gok.dicts, fun _ => rfl⟩, k.kind, k.globals, k.builtins, fun _ e => Option.some.inj e⟩, V, U, C⟩, F, k.gok⟩
/-- a list comprehension -/
theorem EVO.comp (hp : c.pin = none) (CO : CompOk c env x scope cl ys)
    (h : SrcV c env iter σ fun n items σ₁ => ∃ g, (∀ m i C, i < n → EV (c.pinned m) (compEnvC scope cl C env) elt (csto x (items i) σ₁ ys) fun V _ => V = g i) ∧ Ps ((List.range n).map g) σ₁)
    (hs : ∀ v, foldedSetIterable iter env v = pure v := by intro _; rfl) : EVO c env (.ListComp elt [⟨.Name x px, iter, [], 0⟩] scope pos) σ Ps := fun hid z s H E => by
  obtain ⟨m, Hm, F, G⟩ := H.pin hp
  refine ListComp_U (cl := cl) F CO.clos CO.nocell CO.kind CO.names CO.hx (h _ elt x scope cl hid z s m E Hm fun z₁ n items σ₁ s₁ own PI S hz₁ sm₁ X ⟨g, turn, hP⟩ hit hS s₂ sm₂ => ?_) hs
  have S1 := X.x3
  have S2 := X.x4
  refine comp_rest X CO sm₂ hit hS (fun i C hi => turn m i C hi) (fun us z' own' hz' ho' tb' S1' S2' hv => ?_) n 0 [] z₁ own (by lia) (fun _ h => h) (fun _ h _ => h) X.x8.2 S1 S2 VRs.nil
  intro D h tk F' N' off
  obtain ⟨H', hq⟩ := comp_end (s := s₂) (tk := tk) (W := (List.range n).map g) X G hp hz' ho' tb' S1' S2' F' N' off
  exact ⟨z', _, σ₁, D, us, us.length, fun p hp => hz' p (hz₁ p hp), rfl, hq, H', hv, sm₁.trans (sm₂.trans ⟨rfl, rfl, rfl⟩), hP⟩
/-- the frame's own name takes a new list: what is behind it -/
theorem storeO_at {xs : List Mine.V} {b : Addr} {vs : List Value} {n : Nat} {m' : Pin} (hg : m.g = m'.g) (S2 : Sep z ((b, lobj vs n) :: hid)) (k : EnvOk c c.env m) (V : ∀ x l, sget σ x = some l → VarOk c c.env m own z ((b, lobj vs n) :: hid) x l) (U : ∀ x y b xs ys, sget σ x = some (.own b xs) → sget σ y = some (.own b ys) → x = y)
    (C : (∀ x cd, c.cl.lookup x = some cd → ∃ o v₀, ((cd, o) ∈ own ∨ (cd, o) ∈ c.keep) ∧ o.data = .cell v₀) ∧ (∀ x y cd, c.cl.lookup x = some cd → c.cl.lookup y = some cd → x = y) ∧ ∀ y q us, sget σ y ≠ some (.brw q us)) (tb : Tb c.keep z own) (hb : ∀ q ∈ hid, b ≠ q.1) (hv : VRs (PP c.base z) xs vs) (hp : c.pin = none)
    (F : Fr m'.g c.L s'.heap m'.m) (N : News m.g c.L s'.heap (own ++ (z ++ ((b, lobj vs n) :: hid)))) (S1 : Sep own (z ++ ((b, lobj vs n) :: hid)))
    (hs : ∀ y u, y ≠ x → Src c c.env m (own ++ (z ++ ((b, lobj vs n) :: hid))) y u → Src c c.env m' (own ++ (z ++ ((b, lobj vs n) :: hid))) y u) (hx : Src c c.env m' (own ++ (z ++ ((b, lobj vs n) :: hid))) x (.ref b)) :
    At c hid z c.env (sput σ x (.own b xs)) s' := by
  have S10 := S1
  have perm : ∀ q, q ∈ own ++ (z ++ ((b, lobj vs n) :: hid)) ↔ q ∈ ((b, lobj vs n) :: own) ++ (z ++ hid) := fun q => by simp only [List.mem_append, List.mem_cons, List.cons_append]; grind
  have hin : ∀ {p}, p ∈ z ++ hid → p ∈ z ++ ((b, lobj vs n) :: hid) := fun {p} h => by simp only [List.mem_append, List.mem_cons] at h ⊢; grind
  refine ⟨m', (b, lobj vs n) :: own, F, fun p hp => hg ▸ N p ((perm p).mpr hp), ?_, fun p hp q hq => S2 p hp q (.tail _ hq), k.any hp hg, fun y l hy => ?_, fun y y' d us ys hy hy' => ?_, fun _ => ⟨fun y cd hy => ?_, C.2.1, noBrw_put C.2.2 fun _ _ e => nomatch e⟩, tb.mono (fun _ h => h) fun _ _ h => .tail _ h⟩
  · intro p hp q hq
    rcases List.mem_cons.mp hp with rfl | hp
    · rcases List.mem_append.mp hq with hq | hq
      · exact Ne.symm (S2 q hq _ (.head _))
      · exact hb q hq
    · exact S1 p hp q (hin hq)
  · by_cases e : y = x
    · subst e
      rw [sget_sput_same] at hy; cases hy
      exact ⟨hx.mono fun q hq => (perm q).mp hq, vs, n, .head _, hv⟩
    · rw [sget_sput_ne e] at hy
      have := V y l hy
      cases l with
      | frz W => obtain ⟨u, a, b⟩ := this; exact ⟨u, (hs _ _ e a).mono fun q hq => (perm q).mp hq, b⟩
      | own q us =>
        obtain ⟨a, us', n', b', d⟩ := this
        exact ⟨(hs _ _ e a).mono fun q hq => (perm q).mp hq, us', n', .tail _ b', d⟩
      | brw q us => exact absurd hy (C.2.2 y q us)
      | raw w => exact (hs _ _ e this).mono fun q hq => (perm q).mp hq
  · have off : ∀ {y : Str} {d : Addr} {ys : List Mine.V}, y ≠ x → sget (sput σ x (.own b xs)) y = some (.own d ys) → b ≠ d := fun {y d ys} e hy => by
      rw [sget_sput_ne e] at hy
      obtain ⟨_, us', n', b', _⟩ := V y _ hy
      exact Ne.symm (S10 _ b' (b, lobj vs n) (List.mem_append_right _ (.head _)))
    by_cases h1 : y = x
    · by_cases h2 : y' = x
      · rw [h1, h2]
      · subst h1; rw [sget_sput_same] at hy; cases hy
        exact absurd rfl (off h2 hy')
    · by_cases h2 : y' = x
      · subst h2; rw [sget_sput_same] at hy'; cases hy'
        exact absurd rfl (off h1 hy)
      · rw [sget_sput_ne h1] at hy; rw [sget_sput_ne h2] at hy'
        exact U _ _ _ _ _ hy hy'
  · obtain ⟨o, v₀, a, d⟩ := C.1 y cd hy
    exact ⟨o, v₀, a.imp (.tail _) id, d⟩
/-- a name takes a comprehension's list, by the road that stores it at once -/
theorem S1.assignComp (hk : Storable c y) (hl : c.env.kindOf y = some .local) (CO : CompOk c c.env x scope cl ys)
    (h : SrcV c c.env iter σ fun n items σ₁ => ∃ g, (∀ m i C, i < n → EV (c.pinned m) (compEnvC scope cl C c.env) elt (csto x (items i) σ₁ ys) fun V _ => V = g i) ∧ ∀ b, Q .nxt (sput σ₁ y (.own b ((List.range n).map g))))
    (hsw : swapsWith (.ListComp elt [⟨.Name x px, iter, [], 0⟩] scope pos) (some (.Name y py)) spos.line c.env = pure true)
    (hs : ∀ v, foldedSetIterable iter c.env v = pure v := by intro _; rfl) : S1 c (.Assign [.Name y py] (.ListComp elt [⟨.Name x px, iter, [], 0⟩] scope pos) spos) σ Q := fun hid z s H E => by
  obtain ⟨m, Hm, F, G⟩ := H.pin hk.1
  obtain ⟨_, ek⟩ := H.envOk
  refine Assign_ListComp_U (env := c.env) (L := c.L) (cl := cl) F rfl hsw CO.clos CO.nocell CO.kind CO.names CO.hx hl (by rw [ek.kind]; rfl) (h _ elt x scope cl hid z s m E Hm fun z₁ n items σ₁ s₁ own PI S hz₁ sm₁ X ⟨g, turn, hP⟩ hit hS s₂ sm₂ => ?_) hs
  have S1 := X.x3
  have S2 := X.x4
  refine comp_rest X CO sm₂ hit hS (fun i C hi => turn m i C hi) (fun us z' own' hz' ho' tb' S1' S2' hv => ?_) n 0 [] z₁ own (by lia) (fun _ h => h) (fun _ h _ => h) X.x8.2 S1 S2 VRs.nil
  intro D h tk F' N' off
  obtain ⟨F₀, N₀, S1₀, S2₀, k, V, U, C₀⟩ := X
  have om := off1_mem off
  have ny : ∀ {u w : Str}, u ≠ w → ∀ {o : Option Value}, (if u = w then o else m.m u) = m.m u := fun h => if_neg h
  refine ⟨z', .nxt, _, fun p hp => hz' p (hz₁ p hp), storeO_at (c := c) (m' := ⟨fun u => if u = y then some (.ref D) else m.m u, m.g⟩) rfl (b := D) (vs := us) (n := us.length) (z := z') (own := own') (m := m) (xs := (List.range n).map g) (fun q hq r hr => ?_) ⟨G, k.kind, k.globals, k.builtins, fun m₀ e => by rw [hk.1] at e; cases e⟩ (fun y l hy => VarOk.monoN (c := c) ho' hz' (fun _ h => .tail _ h) (V y l hy)) U ⟨fun x cd hx => let ⟨o, v₀, a, d⟩ := (C₀.1 rfl).1 x cd hx; ⟨o, v₀, a.imp (fun a => ho' _ a (.cell d)) id, d⟩, (C₀.1 rfl).2⟩ tb' (fun q hq => Ne.symm (om q (by simp [hq]))) hv hk.1 F' (fun q hq => N' q ?_) (fun q hq r hr => ?_) (fun u w hu H => ?_) (.inl ⟨hl, .inl ⟨rfl, by simp⟩⟩), rfl, sm₁.trans (sm₂.trans ⟨rfl, rfl, rfl⟩), hP D⟩
  · rcases List.mem_cons.mp hr with rfl | hr
    · exact om q (by simp [hq])
    · exact S2' q hq r hr
  · simp only [List.mem_append, List.mem_cons] at hq ⊢; grind
  · rcases List.mem_append.mp hr with hr | hr
    · exact S1' q hq r (List.mem_append_left _ hr)
    · rcases List.mem_cons.mp hr with rfl | hr
      · exact om q (by simp [hq])
      · exact S1' q hq r (List.mem_append_right _ hr)
  · rcases H with ⟨k', H⟩ | H
    · refine .inl ⟨k', H.imp (fun ⟨a, b⟩ => ⟨a, ?_⟩) id⟩
      simpa [hu] using b
    · exact .inr H
end
end
section
open PySem PySem.W PySem.Spec PySem.Calls PyProof.Rows
theorem ns_chr (P : Params) : nsIn (K P) mainGlobals (.ofString "chr") = some none := by kernel_rfl
theorem ns_ord (P : Params) : nsIn (K P) mainGlobals (.ofString "ord") = some none := by kernel_rfl
theorem ns_len (P : Params) : nsIn (K P) mainGlobals (.ofString "len") = some none := by kernel_rfl
theorem ns_range (P : Params) : nsIn (K P) mainGlobals (.ofString "range") = some none := by kernel_rfl
theorem ns_sum (P : Params) : nsIn (K P) mainGlobals (.ofString "sum") = some none := by kernel_rfl
theorem ns_sorted (P : Params) : nsIn (K P) mainGlobals (.ofString "sorted") = some none := by kernel_rfl
theorem ns_min (P : Params) : nsIn (K P) mainGlobals (.ofString "min") = some none := by kernel_rfl
theorem ns_iter (P : Params) : nsIn (K P) mainGlobals (.ofString "iter") = some none := by kernel_rfl
theorem ns_next (P : Params) : nsIn (K P) mainGlobals (.ofString "next") = some none := by kernel_rfl
theorem ns_reversed (P : Params) : nsIn (K P) mainGlobals (.ofString "reversed") = some none := by kernel_rfl
theorem ns_divmod (P : Params) : nsIn (K P) mainGlobals (.ofString "divmod") = some none := by kernel_rfl
theorem ns_StopIteration (P : Params) : nsIn (K P) mainGlobals (.ofString "StopIteration") = some none := by kernel_rfl
theorem ns_ZeroDivisionError (P : Params) : nsIn (K P) mainGlobals (.ofString "ZeroDivisionError") = some none := by kernel_rfl
theorem ns_quotedata (P : Params) : nsIn (K P) mainGlobals (.ofString "quotedata") = some (some (.ref (nat_lit 48))) := by kernel_rfl
theorem kp_quotedata (P : Params) : keepIn (K P) (.ref (nat_lit 48)) = true := by kernel_rfl
theorem cd_quotedata (P : Params) : codeIn (K P) (.ref (nat_lit 47)) (.ofString "quotedata") = true := by kernel_rfl
theorem ns_div2n1n (P : Params) : nsIn (K P) mainGlobals (.ofString "_div2n1n") = some (some (.ref (nat_lit 55))) := by kernel_rfl
theorem kp_div2n1n (P : Params) : keepIn (K P) (.ref (nat_lit 55)) = true := by kernel_rfl
theorem cd_div2n1n (P : Params) : codeIn (K P) (.ref (nat_lit 54)) (.ofString "_div2n1n") = true := by kernel_rfl
theorem ns_div3n2n (P : Params) : nsIn (K P) mainGlobals (.ofString "_div3n2n") = some (some (.ref (nat_lit 62))) := by kernel_rfl
theorem kp_div3n2n (P : Params) : keepIn (K P) (.ref (nat_lit 62)) = true := by kernel_rfl
theorem cd_div3n2n (P : Params) : codeIn (K P) (.ref (nat_lit 61)) (.ofString "_div3n2n") = true := by kernel_rfl
theorem ns_int2digits (P : Params) : nsIn (K P) mainGlobals (.ofString "_int2digits") = some (some (.ref (nat_lit 69))) := by kernel_rfl
theorem kp_int2digits (P : Params) : keepIn (K P) (.ref (nat_lit 69)) = true := by kernel_rfl
theorem cd_int2digits (P : Params) : codeIn (K P) (.ref (nat_lit 68)) (.ofString "_int2digits") = true := by kernel_rfl
theorem ns_digits2int (P : Params) : nsIn (K P) mainGlobals (.ofString "_digits2int") = some (some (.ref (nat_lit 76))) := by kernel_rfl
theorem kp_digits2int (P : Params) : keepIn (K P) (.ref (nat_lit 76)) = true := by kernel_rfl
theorem cd_digits2int (P : Params) : codeIn (K P) (.ref (nat_lit 75)) (.ofString "_digits2int") = true := by kernel_rfl
theorem ns_divmod_pos (P : Params) : nsIn (K P) mainGlobals (.ofString "_divmod_pos") = some (some (.ref (nat_lit 83))) := by kernel_rfl
theorem kp_divmod_pos (P : Params) : keepIn (K P) (.ref (nat_lit 83)) = true := by kernel_rfl
theorem cd_divmod_pos (P : Params) : codeIn (K P) (.ref (nat_lit 82)) (.ofString "_divmod_pos") = true := by kernel_rfl
theorem ns_int_divmod (P : Params) : nsIn (K P) mainGlobals (.ofString "int_divmod") = some (some (.ref (nat_lit 90))) := by kernel_rfl
theorem kp_int_divmod (P : Params) : keepIn (K P) (.ref (nat_lit 90)) = true := by kernel_rfl
theorem cd_int_divmod (P : Params) : codeIn (K P) (.ref (nat_lit 89)) (.ofString "int_divmod") = true := by kernel_rfl
theorem ns_parse_varint (P : Params) : nsIn (K P) mainGlobals (.ofString "_parse_varint") = some (some (.ref (nat_lit 97))) := by kernel_rfl
theorem kp_parse_varint (P : Params) : keepIn (K P) (.ref (nat_lit 97)) = true := by kernel_rfl
theorem cd_parse_varint (P : Params) : codeIn (K P) (.ref (nat_lit 96)) (.ofString "_parse_varint") = true := by kernel_rfl
theorem ns_in_table_b1 (P : Params) : nsIn (K P) mainGlobals (.ofString "in_table_b1") = some (some (.ref (nat_lit 115))) := by kernel_rfl
theorem kp_in_table_b1 (P : Params) : keepIn (K P) (.ref (nat_lit 115)) = true := by kernel_rfl
theorem cd_in_table_b1 (P : Params) : codeIn (K P) (.ref (nat_lit 114)) (.ofString "in_table_b1") = true := by kernel_rfl
theorem ns_law_heaps (P : Params) : nsIn (K P) mainGlobals (.ofString "_law_heaps") = some (some (.ref (nat_lit 120))) := by kernel_rfl
theorem kp_law_heaps (P : Params) : keepIn (K P) (.ref (nat_lit 120)) = true := by kernel_rfl
theorem cd_law_heaps (P : Params) : codeIn (K P) (.ref (nat_lit 119)) (.ofString "_law_heaps") = true := by kernel_rfl
theorem ns_law_hidden (P : Params) : nsIn (K P) mainGlobals (.ofString "_law_hidden") = some (some (.ref (nat_lit 127))) := by kernel_rfl
theorem kp_law_hidden (P : Params) : keepIn (K P) (.ref (nat_lit 127)) = true := by kernel_rfl
theorem cd_law_hidden (P : Params) : codeIn (K P) (.ref (nat_lit 126)) (.ofString "_law_hidden") = true := by kernel_rfl
theorem ns_law_beside (P : Params) : nsIn (K P) mainGlobals (.ofString "_law_beside") = some (some (.ref (nat_lit 134))) := by kernel_rfl
theorem kp_law_beside (P : Params) : keepIn (K P) (.ref (nat_lit 134)) = true := by kernel_rfl
theorem cd_law_beside (P : Params) : codeIn (K P) (.ref (nat_lit 133)) (.ofString "_law_beside") = true := by kernel_rfl
theorem ns_law_kept (P : Params) : nsIn (K P) mainGlobals (.ofString "_law_kept") = some (some (.ref (nat_lit 141))) := by kernel_rfl
theorem kp_law_kept (P : Params) : keepIn (K P) (.ref (nat_lit 141)) = true := by kernel_rfl
theorem cd_law_kept (P : Params) : codeIn (K P) (.ref (nat_lit 140)) (.ofString "_law_kept") = true := by kernel_rfl
theorem ns_law_numbers (P : Params) : nsIn (K P) mainGlobals (.ofString "_law_numbers") = some (some (.ref (nat_lit 146))) := by kernel_rfl
theorem kp_law_numbers (P : Params) : keepIn (K P) (.ref (nat_lit 146)) = true := by kernel_rfl
theorem cd_law_numbers (P : Params) : codeIn (K P) (.ref (nat_lit 145)) (.ofString "_law_numbers") = true := by kernel_rfl
theorem ns_law_targets (P : Params) : nsIn (K P) mainGlobals (.ofString "_law_targets") = some (some (.ref (nat_lit 151))) := by kernel_rfl
theorem kp_law_targets (P : Params) : keepIn (K P) (.ref (nat_lit 151)) = true := by kernel_rfl
theorem cd_law_targets (P : Params) : codeIn (K P) (.ref (nat_lit 150)) (.ofString "_law_targets") = true := by kernel_rfl
theorem ns_law_book (P : Params) : nsIn (K P) mainGlobals (.ofString "_law_book") = some (some (.ref (nat_lit 156))) := by kernel_rfl
theorem kp_law_book (P : Params) : keepIn (K P) (.ref (nat_lit 156)) = true := by kernel_rfl
theorem cd_law_book (P : Params) : codeIn (K P) (.ref (nat_lit 155)) (.ofString "_law_book") = true := by kernel_rfl
theorem ns_law_posted (P : Params) : nsIn (K P) mainGlobals (.ofString "_law_posted") = some (some (.ref (nat_lit 163))) := by kernel_rfl
theorem kp_law_posted (P : Params) : keepIn (K P) (.ref (nat_lit 163)) = true := by kernel_rfl
theorem cd_law_posted (P : Params) : codeIn (K P) (.ref (nat_lit 162)) (.ofString "_law_posted") = true := by kernel_rfl
theorem ns_law_levels (P : Params) : nsIn (K P) mainGlobals (.ofString "_law_levels") = some (some (.ref (nat_lit 170))) := by kernel_rfl
theorem kp_law_levels (P : Params) : keepIn (K P) (.ref (nat_lit 170)) = true := by kernel_rfl
theorem cd_law_levels (P : Params) : codeIn (K P) (.ref (nat_lit 169)) (.ofString "_law_levels") = true := by kernel_rfl
theorem ns_law_rings (P : Params) : nsIn (K P) mainGlobals (.ofString "_law_rings") = some (some (.ref (nat_lit 177))) := by kernel_rfl
theorem kp_law_rings (P : Params) : keepIn (K P) (.ref (nat_lit 177)) = true := by kernel_rfl
theorem cd_law_rings (P : Params) : codeIn (K P) (.ref (nat_lit 176)) (.ofString "_law_rings") = true := by kernel_rfl
theorem ns_law_walks (P : Params) : nsIn (K P) mainGlobals (.ofString "_law_walks") = some (some (.ref (nat_lit 182))) := by kernel_rfl
theorem kp_law_walks (P : Params) : keepIn (K P) (.ref (nat_lit 182)) = true := by kernel_rfl
theorem cd_law_walks (P : Params) : codeIn (K P) (.ref (nat_lit 181)) (.ofString "_law_walks") = true := by kernel_rfl
end
section
open PySem PySem.W PySem.Spec PySem.Calls PyProof.Rows

section
variable {c : Cx} {env : Env} {z z' hid : List (Addr × Obj)} {σ σ' : Sto} {s s' s₁ : Shared} {x y : Str} {v : Value} {E : Value → Shared → Prop} {e l r : Expr} {es : List Expr} {pos p p' p'' spos px py : Pos} {Post : V → Sto → Prop} {P : V → Prop} {Ps : List V → Sto → Prop} {args : List V} {f : Addr} {n : Nat} {B : Bool → Prop} {Q : Out → Sto → Prop} {body : List Stmt} {cop : CmpOp} {T : Bool → Sto → Prop}
theorem At.kept {h' : Heap} {t : Nat} (H : At c hid z env σ s) (hk : ∀ b o, s.heap.get? b = some o → h'.get? b = some o) : At c hid z env σ { s with heap := h', toks := t } := by
  obtain ⟨m, own, F, N, S1, S2, k, V, U, C⟩ := H
  exact ⟨m, own, PyProof.Rows.Fr.kept F hk, fun p hp => ⟨hk _ _ (N p hp).1, (N p hp).2⟩, S1, S2, k, V, U, C⟩
/-! sums, sorted, min -/
theorem CallOk.sum {xs : List Int} (h : P (.int xs.sum)) : CallOk c (.builtin "sum") [.lst (ivs xs)] P := fun env σ hid z s vs H hv E => by
  unfold VRs at hv; obtain ⟨v, r, rfl, hv, hr⟩ := hv
  unfold VRs at hr; subst hr
  unfold VR at hv; obtain ⟨a, vs, n, rfl, hp, hr⟩ := hv
  have hi := hr.toInts
  obtain ⟨ys, e⟩ := hi.allInts.items
  have hxs : xs = ys.toList.map (·.1) := by
    rw [← hi.numsOf, ← nums_intItems, ← e]
  refine sum_intListG rfl (by rw [← e]; exact isL (H.get hp)) fun h' tk t' hk => ?_
  have e2 : preSum (numAt ys) ys.size = xs.sum := by rw [preSum_eq, List.take_of_length_le (by simp), ← hxs]
  rw [e2]
  exact ⟨z, .int xs.sum, σ, fun _ h => h, H.kept hk, by unfold VR; exact ⟨t', rfl⟩, ⟨rfl, rfl, rfl⟩, h, rfl⟩
theorem CallOk.sortedInts {xs : List Int} (h64 : xs.length < 64) (h : ∀ ys : List Int, ys.Perm xs → ys.Pairwise (· ≤ ·) → P (.lst (ivs ys))) : CallOk c (.builtin "sorted") [.lst (ivs xs)] P := fun env σ hid z s vs H hv E => by
  unfold VRs at hv; obtain ⟨v, r, rfl, hv, hr⟩ := hv
  unfold VRs at hr; subst hr
  unfold VR at hv; obtain ⟨a, vs, n, rfl, hp, hr⟩ := hv
  have hi := hr.toInts
  obtain ⟨m, own, X⟩ := id H
  refine sorted_N (h₀ := m.g) (L := c.L) (m := m.m) (news := own ++ (z ++ hid)) X.x1 X.x2 (isL (H.get hp)) hi (by rw [hi.length]; exact h64) fun h' vs' ns' e F' N' a1 a2 a3 => ?_
  obtain ⟨H', hq⟩ := X.newH (t := s.toks) (Nat.le_succ _) F' N'
  refine ⟨_, .lst (ivs ns'), σ, fun p hp => .tail _ hp, H'.show_ hq, ?_, ⟨rfl, rfl, rfl⟩, h _ a2 a3, rfl⟩
  unfold VR
  exact ⟨_, vs', e, rfl, .inr (.head _), VRs.ofInts a1⟩
theorem EV.minN {xs : List Int} (ok : c.Ok n) (hx : Holds σ x (ivs xs)) (hne : 0 < xs.length) (hk : env.kindOf (.ofString "min") = some .globalImplicit) (h : ∀ M, M ∈ xs → (∀ a ∈ xs, M ≤ a) → Post (.int M) σ) (h1 : (x == ("__debug__" : Str)) = false := by decide) (h2 : (x == ("__classdict__" : Str)) = false := by decide) :
    EV c env (.Call (.Name (.ofString "min") p) [.Name x p'] [] pos) σ Post := fun hid z s H E => by
  show wpAny _ _ (do callWith pos (← eval (.Name (.ofString "min") p) env) [] (backTo pos (starEach [Expr.Name x p'] env)) (backToKw pos (keywordEach [] env))) _ _ s
  obtain ⟨m, F⟩ := H.fr
  obtain ⟨_, ek⟩ := H.envOk
  have TR := topRead_of ok.top
  refine wpAny_bind (Name_function_global ek.kind hk (loadGlobal_builtin (mg := c.mg) (mb := c.mb) (ek.globals ▸ TR.g.keeps H.base) (mg_none_of ok.kin TR.g (ns_min _)) (ek.builtins ▸ TR.b.keeps H.base) ((TR.builtins _ (by decide)).trans boot_min) ?_) (by decide))
  refine callWith_builtin1 ?_ (by rfl) (by rfl)
  obtain ⟨a, vs, k, load, hg, hr, w⟩ := H.peek hx h1 h2
  refine spliced_more (load _ _ _ (spliced_none ?_)) rfl
  have hi := hr.toInts
  obtain ⟨m, own, X⟩ := id H
  exact min_list_N (h₀ := m.g) (L := c.L) (m := m.m) (news := own ++ (z ++ hid)) rfl X.x1 X.x2 (isL hg) hi hne fun h' M t tk F' N' a1 a2 =>
    ⟨z, .int M, σ, fun _ h => h, ⟨m, own, F', N', X.x3, X.x4, X.x5, X.x6, X.x7, X.x8⟩, by unfold VR; exact ⟨t, rfl⟩, ⟨rfl, rfl, rfl⟩, h M a1 a2⟩
/-! is, in -/
theorem CmpOk.is_bool {i j : Bool} (h : B (i == j)) : CmpOk c .Is (.bool i) (.bool j) B := by
  intro env σ hid z s va vb H ha hb E
  unfold VR at ha hb; subst ha hb
  exact PyProof.Rows.is_bool (EP.bool H ⟨⟨_, rfl, h⟩, rfl⟩)
theorem CmpOk.isnot_bool {i j : Bool} (h : B (i != j)) : CmpOk c .IsNot (.bool i) (.bool j) B := by
  intro env σ hid z s va vb H ha hb E
  unfold VR at ha hb; subst ha hb
  exact PyProof.Rows.isnot_bool (EP.bool H ⟨⟨_, rfl, h⟩, rfl⟩)
theorem CmpOk.eqStr {i j : Str} (h : B (i == j)) : CmpOk c .Eq (.str i) (.str j) B := by
  intro env σ hid z s va vb H ha hb E
  unfold VR at ha hb; obtain ⟨_, rfl⟩ := ha; obtain ⟨_, rfl⟩ := hb
  exact PyProof.Rows.eq_str (EP.bool H ⟨⟨_, rfl, h⟩, rfl⟩)
theorem CmpOk.neStr {i j : Str} (h : B (i != j)) : CmpOk c .NotEq (.str i) (.str j) B := by
  intro env σ hid z s va vb H ha hb E
  unfold VR at ha hb; obtain ⟨_, rfl⟩ := ha; obtain ⟨_, rfl⟩ := hb
  exact PyProof.Rows.ne_str (EP.bool H ⟨⟨_, rfl, h⟩, rfl⟩)
theorem TV.inN (h : EV c env l σ fun a σ₁ => ∃ k xs, a = .int k ∧ Holds σ₁ x (ivs xs) ∧ T (xs.any (· == k)) σ₁) (h1 : (x == ("__debug__" : Str)) = false := by decide) (h2 : (x == ("__classdict__" : Str)) = false := by decide) :
    TV c env (.Compare l [.In] [.Name x p] pos) σ T := fun hid z s H E => by
  refine wpAny_isTrue_Compare1 ?_ (by rfl)
  refine wpAny_mono (h hid z s H E) (fun va s₁ hPat => ?_) fun _ _ e => e
  obtain ⟨z₁, a, σ₁, hz₁, H₁, ha, sm₁, k, xs, e, hx, h₁⟩ := hPat
  subst e
  unfold VR at ha; obtain ⟨t, rfl⟩ := ha
  obtain ⟨a, vs, n, load, hg, hr, w⟩ := H₁.peek hx h1 h2
  refine load _ _ _ (in_list_ints (isL hg) hr.toInts ?_)
  exact wpAny_truthy_bool ⟨z₁, σ₁, hz₁, H₁, sm₁, h₁⟩
theorem TV.notInN (h : EV c env l σ fun a σ₁ => ∃ k xs, a = .int k ∧ Holds σ₁ x (ivs xs) ∧ T (!(xs.any (· == k))) σ₁) (h1 : (x == ("__debug__" : Str)) = false := by decide) (h2 : (x == ("__classdict__" : Str)) = false := by decide) :
    TV c env (.Compare l [.NotIn] [.Name x p] pos) σ T := fun hid z s H E => by
  refine wpAny_isTrue_Compare1 ?_ (by rfl)
  refine wpAny_mono (h hid z s H E) (fun va s₁ hPat => ?_) fun _ _ e => e
  obtain ⟨z₁, a, σ₁, hz₁, H₁, ha, sm₁, k, xs, e, hx, h₁⟩ := hPat
  subst e
  unfold VR at ha; obtain ⟨t, rfl⟩ := ha
  obtain ⟨a, vs, n, load, hg, hr, w⟩ := H₁.peek hx h1 h2
  refine load _ _ _ (notin_list_ints (isL hg) hr.toInts ?_)
  exact wpAny_truthy_bool ⟨z₁, σ₁, hz₁, H₁, sm₁, h₁⟩
/-! methods -/
theorem EV.indexN {xs : List Int} (hx : Holds σ x (ivs xs)) (h : EV c env e σ fun a σ₁ => ∃ k, a = .int k ∧ sget σ₁ x = sget σ x ∧ PyData.layable0 (.list (xs.map .int)) = true ∧ k ∈ xs ∧ Post (.int (xs.idxOf k : Nat)) σ₁)
    (hline : (p'.endLine == pos.line) = true := by rfl) (he : starEach [e] env = [(false, eval e env)] := by rfl) (h1 : (x == ("__debug__" : Str)) = false := by decide) (h2 : (x == ("__classdict__" : Str)) = false := by decide) :
    EV c env (.Call (.Attribute (.Name x p) (.ofString "index") p') [e] [] pos) σ Post := fun hid z s H E => by
  obtain ⟨a, vs, n, load, hg, hr, w⟩ := H.peek hx h1 h2
  refine wpAny_Call_method (T := "list") (id := "list.index") rfl (by rw [he]; rfl) hline PySem.F.plainAttrs_list PySem.F.slot_list_index (by rfl) (load _ _ _ ⟨(isL hg).typeIs, fun q e => by cases e; exact ⟨_, hg, rfl⟩, ?_⟩)
  refine call_meth1 h H he fun z₁ V σ₁ u s₁ hz H₁ hu sm hPat => ?_
  obtain ⟨k, e, smx, hlay, hk, hP⟩ := hPat
  subst e
  unfold VR at hu; obtain ⟨t, rfl⟩ := hu
  obtain ⟨vs', n', hg', hr'⟩ := H₁.still hz hr w smx
  exact index_list_ints (isL hg') hr'.toInts hlay hk (EP.from (EP.int H₁ hP) hz sm)
noncomputable def svs (xs : List Str) : List V := xs.map V.str
theorem VRs.strs {P : Addr → Obj → Prop} : ∀ {xs : List Str} {vs : List Value}, VRs P (svs xs) vs → ∃ l : List (Str × Tok), vs = strValues l ∧ l.map (·.1) = xs
  | [], _, H => by unfold svs VRs at H; simp at H; subst H; exact ⟨[], rfl, rfl⟩
  | x :: xs, _, H => by
    simp only [svs, List.map_cons] at H; unfold VRs at H; obtain ⟨v, r, rfl, a, b⟩ := H; unfold VR at a; obtain ⟨t, rfl⟩ := a
    obtain ⟨l, rfl, e⟩ := VRs.strs (xs := xs) b
    exact ⟨(x, t) :: l, rfl, by simp [e]⟩
theorem EV.join {k : Nat} {w : Str} (h : EV c env e σ fun a σ₁ => ∃ xs, a = .lst (svs xs) ∧ JoinOk w xs = true ∧ Post (.str (Txt.join w xs)) σ₁)
    (hline : (p'.endLine == pos.line) = true := by rfl) (he : starEach [e] env = [(false, eval e env)] := by rfl) :
    EV c env (.Call (.Attribute (.Constant (.str w) k p) (.ofString "join") p') [e] [] pos) σ Post := fun hid z s H E => by
  refine wpAny_Call_method (T := "str") (id := "str.join") rfl (by rw [he]; rfl) hline PySem.F.plainAttrs_str PySem.F.slot_str_join (by rfl) (wpAny_Constant_str ⟨typeIs_str _ _ _, fun q e => (by cases e), ?_⟩)
  have he' := he
  rw [he]
  refine Calls.callWith_builtin rfl (Calls.evalArgs_plain (Calls.spliced_cons ?_))
  refine h.go H.toks fun z₁ V σ₁ u s₁ hz H₁ hu sm ⟨xs, e, hok, hP⟩ => Calls.spliced_nil ?_
  subst e
  unfold VR at hu; obtain ⟨a, vs, n, rfl, hp, hr⟩ := hu
  obtain ⟨l, rfl, hl⟩ := hr.strs
  exact SC.join (isL (H₁.get hp)) hl hok fun t' k => EP.from (EP.str H₁ hP) hz (Same.trans (b := { s with toks := _ }) ⟨rfl, rfl, rfl⟩ sm)
end
end
section
open PySem PySem.W PySem.Spec PySem.Calls PyProof.Rows

mutual
noncomputable def V.data : V → PyData
  | .none => .none
  | .bool b => .bool b
  | .int i => .int i
  | .str x => .str x
  | .lst xs => .list (V.datas xs)
  | .tup xs => .tuple (V.datas xs)
noncomputable def V.datas : List V → List PyData
  | [] => []
  | x :: xs => x.data :: V.datas xs
end
mutual
noncomputable def V.num : V → Bool
  | .int _ => true
  | .lst xs => V.nums xs
  | .tup xs => V.nums xs
  | _ => false
noncomputable def V.nums : List V → Bool
  | [] => true
  | x :: xs => x.num && V.nums xs
end
mutual
theorem VR.reads {P : Addr → Obj → Prop} {h : Heap} (hp : ∀ a o, P a o → h.get? a = some o) : ∀ {x : V} {v : Value}, VR P x v → ∃ as, Reads h v x.data as
  | .none, _, H => by unfold VR at H; subst H; unfold V.data; exact ⟨_, .none⟩
  | .bool _, _, H => by unfold VR at H; subst H; unfold V.data; exact ⟨_, .bool _⟩
  | .int _, _, H => by unfold VR at H; obtain ⟨t, rfl⟩ := H; unfold V.data; exact ⟨_, .int _ _⟩
  | .str _, _, H => by unfold VR at H; obtain ⟨t, rfl⟩ := H; unfold V.data; exact ⟨_, .str _ _⟩
  | .lst xs, _, H => by unfold VR at H; obtain ⟨a, vs, n, rfl, p, r⟩ := H; obtain ⟨as, ra⟩ := VRs.reads hp r; unfold V.data; exact ⟨_, .list (hp _ _ p) rfl rfl ra⟩
  | .tup xs, _, H => by unfold VR at H; obtain ⟨a, vs, n, rfl, p, r⟩ := H; obtain ⟨as, ra⟩ := VRs.reads hp r; unfold V.data; exact ⟨_, .tuple (hp _ _ p) rfl rfl ra⟩
theorem VRs.reads {P : Addr → Obj → Prop} {h : Heap} (hp : ∀ a o, P a o → h.get? a = some o) : ∀ {xs : List V} {vs : List Value}, VRs P xs vs → ∃ as, ReadsAll h vs (V.datas xs) as
  | [], _, H => by unfold VRs at H; subst H; unfold V.datas; exact ⟨_, .nil⟩
  | x :: xs, _, H => by unfold VRs at H; obtain ⟨v, r, rfl, a, b⟩ := H; obtain ⟨as, ra⟩ := VR.reads hp a; obtain ⟨bs, rb⟩ := VRs.reads hp b; unfold V.datas; exact ⟨_, .cons ra rb⟩
end
mutual
theorem V.num_lay : ∀ {x : V}, x.num = true → x.data.canLay0 = true
  | .none, h => by unfold V.num at h; cases h
  | .bool _, h => by unfold V.num at h; cases h
  | .str _, h => by unfold V.num at h; cases h
  | .int _, h => by unfold V.data PyData.canLay0; rfl
  | .lst xs, h => by unfold V.num at h; unfold V.data PyData.canLay0; exact V.nums_lay h
  | .tup xs, h => by unfold V.num at h; unfold V.data PyData.canLay0; exact V.nums_lay h
theorem V.nums_lay : ∀ {xs : List V}, V.nums xs = true → PyData.canLayAll0 (V.datas xs) = true
  | [], h => by unfold V.datas PyData.canLayAll0; rfl
  | x :: xs, h => by
    unfold V.nums at h; rw [Bool.and_eq_true] at h
    unfold V.datas PyData.canLayAll0; rw [V.num_lay h.1, V.nums_lay h.2]; rfl
end
mutual
theorem V.eqv_iff : ∀ {x y : V}, x.num = true → y.num = true → (PyData.eqv x.data y.data = true ↔ x = y)
  | .none, _, h, _ => by unfold V.num at h; cases h
  | .bool _, _, h, _ => by unfold V.num at h; cases h
  | .str _, _, h, _ => by unfold V.num at h; cases h
  | _, .none, _, h => by unfold V.num at h; cases h
  | _, .bool _, _, h => by unfold V.num at h; cases h
  | _, .str _, _, h => by unfold V.num at h; cases h
  | .int i, .int j, _, _ => by unfold V.data PyData.eqv; simp
  | .int i, .lst _, _, _ => by unfold V.data PyData.eqv; simp
  | .int i, .tup _, _, _ => by unfold V.data PyData.eqv; simp
  | .lst _, .int _, _, _ => by unfold V.data PyData.eqv; simp
  | .lst _, .tup _, _, _ => by unfold V.data PyData.eqv; simp
  | .tup _, .int _, _, _ => by unfold V.data PyData.eqv; simp
  | .tup _, .lst _, _, _ => by unfold V.data PyData.eqv; simp
  | .lst xs, .lst ys, h, k => by unfold V.num at h k; unfold V.data PyData.eqv; rw [V.eqvs_iff h k]; simp
  | .tup xs, .tup ys, h, k => by unfold V.num at h k; unfold V.data PyData.eqv; rw [V.eqvs_iff h k]; simp
theorem V.eqvs_iff : ∀ {xs ys : List V}, V.nums xs = true → V.nums ys = true → (PyData.eqvAll (V.datas xs) (V.datas ys) = true ↔ xs = ys)
  | [], [], _, _ => by unfold V.datas PyData.eqvAll; simp
  | [], _ :: _, _, _ => by unfold V.datas PyData.eqvAll; simp
  | _ :: _, [], _, _ => by unfold V.datas PyData.eqvAll; simp
  | x :: xs, y :: ys, h, k => by
    unfold V.nums at h k; rw [Bool.and_eq_true] at h k
    unfold V.datas PyData.eqvAll; rw [Bool.and_eq_true, V.eqv_iff h.1 k.1, V.eqvs_iff h.2 k.2]; simp
end
theorem nums_ivs : ∀ xs : List Int, V.nums (ivs xs) = true
  | [] => by simp only [ivs, List.map_nil]; unfold V.nums; rfl
  | x :: xs => by simp only [ivs, List.map_cons]; unfold V.nums; rw [show V.nums (List.map V.int xs) = true from nums_ivs xs]; unfold V.num; rfl
theorem num_lst {xs : List V} (h : V.nums xs = true) : (V.lst xs).num = true := by unfold V.num; exact h
theorem num_tup {xs : List V} (h : V.nums xs = true) : (V.tup xs).num = true := by unfold V.num; exact h
theorem num_int {i : Int} : (V.int i).num = true := by unfold V.num; rfl
theorem nums_nil : V.nums [] = true := by unfold V.nums; rfl
theorem nums_cons {x : V} {xs : List V} (h : x.num = true) (k : V.nums xs = true) : V.nums (x :: xs) = true := by unfold V.nums; rw [h, k]; rfl
theorem nums_lists : ∀ xss : List (List Int), V.nums (xss.map fun xs => .lst (ivs xs)) = true
  | [] => nums_nil
  | xs :: r => nums_cons (num_lst (nums_ivs xs)) (nums_lists r)
section
variable {c : Cx} {env : Env} {z z' hid : List (Addr × Obj)} {σ σ' : Sto} {s s' s₁ : Shared} {x y : Str} {v : Value} {E : Value → Shared → Prop} {e l r : Expr} {es : List Expr} {pos p p' p'' spos px py : Pos} {Post : V → Sto → Prop} {P : V → Prop} {Ps : List V → Sto → Prop} {args : List V} {f : Addr} {n : Nat} {B : Bool → Prop} {Q : Out → Sto → Prop} {body : List Stmt} {cop : CmpOp} {T : Bool → Sto → Prop}
theorem CmpOk.eqNum {a b : V} (ok : c.Ok n) (ha : a.num = true) (hb : b.num = true) (hd : min a.data.depth b.data.depth ≤ 4) (h : ∀ q : Bool, (q = true ↔ a = b) → B q) : CmpOk c .Eq a b B := by
  intro env σ hid z s va vb H va' vb' E
  obtain ⟨as, ra⟩ := va'.reads fun a o => H.get
  obtain ⟨bs, rb⟩ := vb'.reads fun a o => H.get
  refine PySem.SeqAt.compareEq_reads ra rb (V.num_lay ha) (V.num_lay hb) ?_ (EP.bool H ⟨⟨_, rfl, h _ (V.eqv_iff ha hb)⟩, rfl⟩)
  have := ok.units
  show c.un + _ < cLine
  lia
theorem CmpOk.neNum {a b : V} (ok : c.Ok n) (ha : a.num = true) (hb : b.num = true) (hd : min a.data.depth b.data.depth ≤ 4) (h : ∀ q : Bool, (q = false ↔ a = b) → B q) : CmpOk c .NotEq a b B := by
  intro env σ hid z s va vb H va' vb' E
  obtain ⟨as, ra⟩ := va'.reads fun a o => H.get
  obtain ⟨bs, rb⟩ := vb'.reads fun a o => H.get
  refine PySem.SeqAt.compareNe_reads ra rb (V.num_lay ha) (V.num_lay hb) ?_ (EP.bool H ⟨⟨_, rfl, h _ (by rw [← V.eqv_iff ha hb]; simp)⟩, rfl⟩)
  have := ok.units
  show c.un + _ < cLine
  lia
theorem dep_ivs : ∀ xs : List Int, PyData.depthAll (V.datas (ivs xs)) = 0
  | [] => by simp only [ivs, List.map_nil]; unfold V.datas PyData.depthAll; rfl
  | x :: xs => by
    simp only [ivs, List.map_cons]; unfold V.datas PyData.depthAll V.data PyData.depth
    rw [show PyData.depthAll (V.datas (List.map V.int xs)) = 0 from dep_ivs xs]; rfl
theorem dep_lst (xs : List Int) : (V.lst (ivs xs)).data.depth = 1 := by unfold V.data PyData.depth; rw [dep_ivs]
theorem dep_lists : ∀ xss : List (List Int), PyData.depthAll (V.datas (xss.map fun xs => V.lst (ivs xs))) ≤ 1
  | [] => by simp only [List.map_nil]; unfold V.datas PyData.depthAll; lia
  | xs :: r => by
    simp only [List.map_cons]; unfold V.datas PyData.depthAll
    have := dep_lists r
    rw [dep_lst]; lia
theorem dep_llst (xss : List (List Int)) : (V.lst (xss.map fun xs => V.lst (ivs xs))).data.depth ≤ 2 := by
  unfold V.data PyData.depth; have := dep_lists xss; lia
/-- a str times a number -/
theorem BinOk.mulDot {i : Int} (h0 : 1 ≤ i) (h1 : i ≤ 100000) (k : Nat) (h : P (.str ⟨Array.replicate i.toNat k⟩)) : BinOk c .Mult (.str ⟨#[k]⟩) (.int i) P := fun env σ hid z s va vb H ha hb E => by
  unfold VR at ha hb
  obtain ⟨t, rfl⟩ := ha
  obtain ⟨u, rfl⟩ := hb
  have hl : (⟨#[k]⟩ : Str).length = 1 := rfl
  have e : ∀ n : Nat, (List.replicate n #[k]).foldl (· ++ ·) #[] = Array.replicate n k := by
    intro n
    induction n with
    | zero => rfl
    | succ n ih => rw [List.replicate_succ', List.foldl_append, ih]; simp [Array.replicate_succ]
  refine PySem.P.mul_str (by rw [decide_eq_false (by lia), decide_eq_false (by lia)]; rfl) (fun _ _ => ?_) (fun _ _ => ?_) ?_
  · rw [hl]
    have : (2 ^ 63 - 1) / i ≥ 1 := (Int.le_ediv_iff_mul_le (by lia)).mpr (by lia)
    lia
  · rw [hl]
    show decide (_ > sizeLine) = false
    exact decide_eq_false (by rw [sizeLine_eq]; lia)
  · rw [if_neg (by lia)]
    by_cases h2 : i = 1
    · subst h2
      rw [if_pos (by rfl)]
      exact ⟨z, _, σ, fun _ h => h, H, by unfold VR; exact ⟨t, rfl⟩, ⟨rfl, rfl, rfl⟩, h, rfl⟩
    · rw [if_neg (by rw [hl]; simp [h2]), e]
      exact ⟨by show (Array.replicate i.toNat k).size ≤ _; rw [Array.size_replicate, sizeLine_eq]; lia, EP.str H ⟨h, rfl⟩⟩
/-- two names take a pair -/
theorem S1.assign2 {k : Nat} (hx : Storable c x) (hy : Storable c y) (h : EV c c.env e σ fun W σ₁ => ∃ a b, W = .tup [a, b] ∧ Q .nxt (sput (sput σ₁ x (.frz a)) y (.frz b)))
    (hs : swapsWithSole [.Tuple [.Name x px, .Name y py] k p] e spos.line c.env = pure false := by rfl)
    (hw : swappedStores [.Tuple [.Name x px, .Name y py] k p] e c.env = pure none := by rfl) : S1 c (.Assign [.Tuple [.Name x px, .Name y py] k p] e spos) σ Q := fun hid z s H E => by
  refine Assign_Tuple (h.go H fun z₁ W σ₁ v s₁ hz₁ H₁ hv sm₁ hPat => ?_) hs hw
  obtain ⟨a, b, e, hQ⟩ := hPat
  subst e
  unfold VR at hv; obtain ⟨ad, vs, n, rfl, hp, hr⟩ := hv
  unfold VRs at hr; obtain ⟨va, r, rfl, ha, hr⟩ := hr
  unfold VRs at hr; obtain ⟨vb, r, rfl, hb, hr⟩ := hr
  unfold VRs at hr; subst hr
  refine assign_Tuple_tuple rfl (isT (H₁.get hp)) rfl rfl fun h' hk => ?_
  have H₂ : At c hid z₁ c.env σ₁ { s₁ with heap := h' } := H₁.kept (t := s₁.toks) fun q o e => hk q o (Nat.ne_of_lt (Heap.lt_size e)) e
  refine assignInOrder_cons (assign_Name (wpAny_mono (H₂.store ha hx) (fun _ s₃ hPat => ?_) fun _ _ e => e))
  obtain ⟨H₃, sm₃⟩ := hPat
  refine assignInOrder_cons (assign_Name (wpAny_mono (H₃.store hb hy) (fun _ s₄ hPat => ?_) fun _ _ e => e))
  obtain ⟨H₄, sm₄⟩ := hPat
  refine assignInOrder_nil ?_
  exact ⟨z₁, .nxt, _, hz₁, H₄, rfl, sm₁.trans (Same.trans (b := { s₁ with heap := h' }) ⟨rfl, rfl, rfl⟩ (sm₃.trans sm₄)), hQ⟩
end
end
section
open PySem PySem.W PySem.Spec PySem.Calls PyProof.Rows

section
variable {c : Cx} {env : Env} {σ σ' : Sto} {x y : Str} {n : Nat} {sc scope : Scope} {k : NameKind} {cl : List (Str × Addr)} {Q : Out → Sto → Prop} {rest : List Stmt} {J : Sto → Prop} {v : V}
/-- a def's frame -/
structure Cx.Is (c : Cx) (sc : Scope) (n : Nat) : Prop where
  pin : c.pin = none
  cs : c.cs = sc
  cl : (∃ k, c.cl = cellsFrom k sc.names [] ∧ c.keep = []) ∨ (c.still = true ∧ ∀ x ∈ sc.names, x.2 ≠ .cell)
  ok : c.Ok n
theorem Cx.Is.kind (C : c.Is sc n) (h : sc.names.lookup x = some k) : c.env.kindOf x = some k := by
  show c.cs.names.lookup x = some k
  rw [C.cs]; exact h
theorem Cx.Is.loc (C : c.Is sc n) (h : sc.names.lookup x = some .local) : Storable c x := ⟨C.pin, .inl (C.kind h)⟩
theorem Cx.Is.cel (C : c.Is sc n) (h : sc.names.lookup x = some .cell) : Storable c x := ⟨C.pin, .inr ⟨C.kind h, by
  obtain ⟨k, e, _⟩ | ⟨_, e⟩ := C.cl
  · rw [e]; exact cellsFrom_some _ _ _ (.inl h)
  · exact absurd rfl (e _ (lookup_mem' h)), by
  obtain ⟨k, _, e⟩ | ⟨_, e⟩ := C.cl
  · exact e
  · exact absurd rfl (e _ (lookup_mem' h))⟩⟩
theorem SQ.nx (h : ST c rest σ Q) : SQ c rest Q .nxt σ := h
theorem SQ.rt (h : Q (.ret v) σ) : SQ c rest Q (.ret v) σ := h
theorem SQ.bk (h : Q .brk σ) : SQ c rest Q .brk σ := h
theorem LE.nx (h : J σ) : LE J Q .nxt σ := h
theorem LE.rt (h : Q (.ret v) σ) : LE J Q (.ret v) σ := h
theorem LE.bk (h : Q .nxt σ) : LE J Q .brk σ := h
/-! comprehensions -/
noncomputable def compCl (names : List (Str × NameKind)) (cl : List (Str × Addr)) (acc : List (Str × Addr)) : List (Str × Addr) := names.foldl (fun cs p => if p.2 == .free then (p.1, (cl.lookup p.1).getD 0) :: cs else cs) acc
noncomputable def compYs (scope : Scope) : List Str := (scope.names.filter fun p => p.2 == .free).map (·.1)
theorem clos_go : ∀ (names : List (Str × NameKind)) (acc : List (Str × Addr)), (∀ p ∈ names, p.2 = .free → (env.cells.lookup p.1).isSome = true) →
    (forIn names acc (fun x r => match x with
      | (name, kind) => if (kind == .free) = true then do let a ← cellOf env name; pure (ForInStep.yield ((name, a) :: r)) else pure (ForInStep.yield r)) : Sem (List (Str × Addr))) = pure (compCl names env.cells acc)
  | [], acc, _ => by rw [List.forIn_nil]; rfl
  | (y, k) :: r, acc, h => by
    rw [List.forIn_cons]
    have ih := fun acc => clos_go r acc fun p hp => h p (.tail _ hp)
    by_cases e : k = .free
    · subst e
      have hs := h (y, .free) (.head _) rfl
      obtain ⟨a, ha⟩ := Option.isSome_iff_exists.mp hs
      have ha' : env.cells.lookup y = some a := ha
      have e1 : cellOf env y = pure a := by unfold cellOf; rw [ha']
      simp only [show (NameKind.free == NameKind.free) = true from rfl, if_true, e1, pure_bind]
      rw [ih]
      unfold compCl
      rw [List.foldl_cons]
      simp only [show (NameKind.free == NameKind.free) = true from rfl, if_true, ha', Option.getD_some]
    · have e2 : (k == NameKind.free) = false := by cases k <;> first | rfl | exact absurd rfl e
      simp only [e2, Bool.false_eq_true, if_false, pure_bind]
      rw [ih]
      unfold compCl
      rw [List.foldl_cons]
      simp only [e2, Bool.false_eq_true, if_false]
theorem clos_eq (h : ∀ p ∈ scope.names, p.2 = .free → (env.cells.lookup p.1).isSome = true) : closureFor scope env = pure (compCl scope.names env.cells []) := by
  have := clos_go (env := env) scope.names [] h
  unfold closureFor
  first
  | exact this
  | (simp only [bind_pure]; exact this)
  | (rw [← this]; rfl)
theorem compCl_old {cl : List (Str × Addr)} : ∀ (names : List (Str × NameKind)) (acc : List (Str × Addr)), (acc.lookup y = cl.lookup y) → (cl.lookup y).isSome = true → (compCl names cl acc).lookup y = cl.lookup y
  | [], acc, h, _ => h
  | (u, k) :: r, acc, h, hs => by
    unfold compCl; rw [List.foldl_cons]
    refine compCl_old r _ ?_ hs
    split
    · rw [List.lookup_cons]
      cases e : y == u with
      | true =>
        obtain ⟨a, ha⟩ := Option.isSome_iff_exists.mp hs
        have := beq_iff_eq.mp e
        subst this
        simp only [ha, Option.getD_some]
      | false => exact h
    · exact h
theorem compCl_get {cl : List (Str × Addr)} : ∀ (names : List (Str × NameKind)) (acc : List (Str × Addr)), (y, NameKind.free) ∈ names → (cl.lookup y).isSome = true → (compCl names cl acc).lookup y = cl.lookup y
  | (u, k) :: r, acc, h, hs => by
    unfold compCl; rw [List.foldl_cons]
    rcases List.mem_cons.mp h with e | h
    · cases e
      refine compCl_old r _ ?_ hs
      obtain ⟨a, ha⟩ := Option.isSome_iff_exists.mp hs
      simp only [show (NameKind.free == NameKind.free) = true from rfl, if_true, List.lookup_cons, ha, Option.getD_some]
      rw [show (y == y) = true from beq_self_eq_true y]
    · exact compCl_get r _ h hs
theorem relabel_free (hf : env.scope.kind = .function) (hc : env.kindOf y = some .cell) : ∀ {names : List (Str × NameKind)}, names.lookup y = some .free →
    (names.map fun (n, k) => if (k == NameKind.free && env.scope.kind == .function && env.kindOf n == some .cell) then (n, NameKind.cell) else (n, k)).lookup y = some .cell
  | (u, k) :: r, h => by
    show List.lookup y ((if (k == NameKind.free && env.scope.kind == .function && env.kindOf u == some .cell) = true then (u, NameKind.cell) else (u, k)) :: _) = _
    rw [List.lookup_cons] at h
    cases e : y == u with
    | true =>
      rw [e] at h
      have hk : k = .free := Option.some.inj h
      subst hk
      have hu := beq_iff_eq.mp e
      subst hu
      have hb : (NameKind.free == NameKind.free && env.scope.kind == .function && env.kindOf y == some .cell) = true := by rw [hf, hc]; rfl
      rw [if_pos hb, List.lookup_cons, e]
    | false =>
      rw [e] at h
      have ih := relabel_free (names := r) hf hc h
      split <;> (rw [List.lookup_cons, e]; exact ih)
theorem relabel_keep (hk : k ≠ .free) : ∀ {names : List (Str × NameKind)}, names.lookup y = some k →
    (names.map fun (n, k) => if (k == NameKind.free && env.scope.kind == .function && env.kindOf n == some .cell) then (n, NameKind.cell) else (n, k)).lookup y = some k
  | (u, j) :: r, h => by
    show List.lookup y ((if (j == NameKind.free && env.scope.kind == .function && env.kindOf u == some .cell) = true then (u, NameKind.cell) else (u, j)) :: _) = _
    rw [List.lookup_cons] at h
    cases e : y == u with
    | true =>
      rw [e] at h
      have hj : j = k := Option.some.inj h
      subst hj
      have hb : (j == NameKind.free) = false := by cases j <;> first | rfl | exact absurd rfl hk
      rw [hb]
      simp only [Bool.false_and, Bool.false_eq_true, if_false, List.lookup_cons, e]
    | false =>
      rw [e] at h
      have ih := relabel_keep (names := r) hk h
      split <;> (rw [List.lookup_cons, e]; exact ih)
theorem comp_kind {C : Addr} (h : scope.names.lookup x = some k) (hk : k ≠ .free) : (compEnvC scope cl C env).kindOf x = some k := relabel_keep hk h
noncomputable def compCheck (sc scope : Scope) (x : Str) : Bool :=
  scope.kind == .function && sc.kind == .function && scope.names.lookup x == some .local &&
  scope.names.all (fun p => p.2 != .cell && (p.2 != .local || scope.names.lookup p.1 == some .local) && (p.2 != .free || (scope.names.lookup p.1 == some .free && sc.names.lookup p.1 == some .cell)))
theorem Cx.Is.comp (C : c.Is sc n) (h : compCheck sc scope x = true) : CompOk c c.env x scope (compCl scope.names c.cl []) (compYs scope) := by
  unfold compCheck at h
  simp only [Bool.and_eq_true, List.all_eq_true, Bool.or_eq_true, bne_iff_ne, ne_eq, beq_iff_eq] at h
  obtain ⟨⟨⟨h1, h2⟩, h3⟩, h4⟩ := h
  have some : ∀ y, sc.names.lookup y = some .cell → (c.cl.lookup y).isSome = true := fun y hy => by
    obtain ⟨k, e, _⟩ | ⟨_, e⟩ := C.cl
    · rw [e]; exact cellsFrom_some _ _ _ (.inl hy)
    · exact absurd rfl (e _ (lookup_mem' hy))
  have fr : ∀ p ∈ scope.names, p.2 = .free → scope.names.lookup p.1 = Option.some .free ∧ sc.names.lookup p.1 = Option.some .cell := fun p hp e => by
    rcases (h4 p hp).2 with h | h
    · exact absurd e h
    · exact h
  refine ⟨clos_eq fun p hp e => some _ (fr p hp e).2, fun p hp => (h4 p hp).1.1, h1, fun p hp e => ?_, h3, fun y hy => ?_⟩
  · rcases (h4 p hp).1.2 with h | h
    · exact absurd e h
    · exact h
  · obtain ⟨p, hp, rfl⟩ := List.mem_map.mp hy
    obtain ⟨hp, hf⟩ := List.mem_filter.mp hp
    have hf' : p.2 = .free := beq_iff_eq.mp hf
    obtain ⟨f1, f2⟩ := fr p hp hf'
    have kc := C.kind f2
    refine ⟨relabel_free (show c.cs.kind = .function by rw [C.cs]; exact h2) kc f1, ?_, kc⟩
    refine compCl_get scope.names [] ?_ (some _ f2)
    obtain ⟨a, b⟩ := p
    simp only at hf'
    subst hf'
    exact hp
/-- a def's contract is shown by its body -/
theorem Fn.intro' {f : Addr} {n : Nat} {args : List V} {rv : V} {name qual : Str} {params : Arguments} {body : List Stmt} {scope : Scope} {pm cdv : Value} {ps : List Str}
    (ho : ∀ P, (K P).lookup f = some ⟨.type "function", none, .func (fnOf name qual params body scope .none .none .none pm none cdv .none), #[]⟩) (hcd : ∀ P, codeIn (K P) cdv qual = true)
    (hbind : ∀ vs : List Value, vs.length = ps.length → bindArgs (fnOf name qual params body scope .none .none .none pm none cdv .none) ⟨vs, []⟩ = pure (ps.zip vs))
    (hlen : args.length = ps.length) (hkinds : (ps.all fun y => scope.names.lookup y == some .local || scope.names.lookup y == some .cell) = true) (hnp : ps.Nodup)
    (hnd : ((cellsFrom 0 scope.names []).map (·.1)).Nodup) (hco : scope.isCoroutine = false) (hgen : scope.isGenerator = false) (hk : scope.kind = .function)
    (h : ∀ c : Cx, c.Is scope n → ST c body (frzs ps args) fun o _ => o = .ret rv) : Fn f (n + 1) args rv :=
  Fn.intro ho hcd hbind hlen hkinds hnp hnd hco hgen hk fun c h1 _ h3 h4 hkp h5 => h c ⟨h1, h3, .inl (h4.imp fun _ e => ⟨e, hkp⟩), h5⟩
theorem EV.nameAny {p : Pos} {Post : V → Sto → Prop} (h : (∃ W, sget σ x = some (.frz W) ∧ Post W σ) ∨ (∃ b xs, sget σ x = some (.own b xs) ∧ Post (.lst xs) (sput σ x (.frz (.lst xs))))) (h1 : (x == ("__debug__" : Str)) = false := by decide) (h2 : (x == ("__classdict__" : Str)) = false := by decide) : EV c env (.Name x p) σ Post := by
  rcases h with ⟨W, a, b⟩ | ⟨b, xs, a, d⟩
  · exact EV.name a b h1 h2
  · exact EV.nameOwn a d h1 h2
end
end
section
open PySem PySem.W PySem.Spec PySem.Calls PyProof.Rows
section
variable {c : Cx} {env : Env} {σ : Sto} {e : Expr} {es : List Expr} {pos p : Pos} {Post : V → Sto → Prop} {n : Nat}
theorem EV.c_chr (ok : c.Ok n) (hx : env.kindOf (.ofString "chr") = some .globalImplicit) (h : EVs c env (e :: es) σ fun W σ₁ => CallOk c (.builtin "chr") W fun V => Post V σ₁) (he : starEach (e :: es) env = (false, eval e env) :: starEach es env) (hp : (backTo pos (starEach es env)).any (·.1) = false) : EV c env (.Call (.Name (.ofString "chr") p) (e :: es) [] pos) σ Post := EV.callB ok (ns_chr _) (by rfl) hx h (by decide) (by decide) he hp
theorem EV.c_ord (ok : c.Ok n) (hx : env.kindOf (.ofString "ord") = some .globalImplicit) (h : EVs c env (e :: es) σ fun W σ₁ => CallOk c (.builtin "ord") W fun V => Post V σ₁) (he : starEach (e :: es) env = (false, eval e env) :: starEach es env) (hp : (backTo pos (starEach es env)).any (·.1) = false) : EV c env (.Call (.Name (.ofString "ord") p) (e :: es) [] pos) σ Post := EV.callB ok (ns_ord _) (by rfl) hx h (by decide) (by decide) he hp
theorem EV.c_len (ok : c.Ok n) (hx : env.kindOf (.ofString "len") = some .globalImplicit) (h : EVs c env (e :: es) σ fun W σ₁ => CallOk c (.builtin "len") W fun V => Post V σ₁) (he : starEach (e :: es) env = (false, eval e env) :: starEach es env) (hp : (backTo pos (starEach es env)).any (·.1) = false) : EV c env (.Call (.Name (.ofString "len") p) (e :: es) [] pos) σ Post := EV.callB ok (ns_len _) (by rfl) hx h (by decide) (by decide) he hp
theorem EV.c_sum (ok : c.Ok n) (hx : env.kindOf (.ofString "sum") = some .globalImplicit) (h : EVs c env (e :: es) σ fun W σ₁ => CallOk c (.builtin "sum") W fun V => Post V σ₁) (he : starEach (e :: es) env = (false, eval e env) :: starEach es env) (hp : (backTo pos (starEach es env)).any (·.1) = false) : EV c env (.Call (.Name (.ofString "sum") p) (e :: es) [] pos) σ Post := EV.callB ok (ns_sum _) (by rfl) hx h (by decide) (by decide) he hp
theorem EV.c_sorted (ok : c.Ok n) (hx : env.kindOf (.ofString "sorted") = some .globalImplicit) (h : EVs c env (e :: es) σ fun W σ₁ => CallOk c (.builtin "sorted") W fun V => Post V σ₁) (he : starEach (e :: es) env = (false, eval e env) :: starEach es env) (hp : (backTo pos (starEach es env)).any (·.1) = false) : EV c env (.Call (.Name (.ofString "sorted") p) (e :: es) [] pos) σ Post := EV.callB ok (ns_sorted _) (by rfl) hx h (by decide) (by decide) he hp
theorem EV.f_quotedata (ok : c.Ok n) (hx : env.kindOf (.ofString "quotedata") = some .globalImplicit) (h : EVs c env (e :: es) σ fun W σ₁ => CallOk c (.ref (nat_lit 48)) W fun V => Post V σ₁) (he : starEach (e :: es) env = (false, eval e env) :: starEach es env) (hp : (backTo pos (starEach es env)).any (·.1) = false) : EV c env (.Call (.Name (.ofString "quotedata") p) (e :: es) [] pos) σ Post := EV.call ok (ns_quotedata _) (kp_quotedata _) hx h (by decide) he hp
theorem EV.f_int2digits (ok : c.Ok n) (hx : env.kindOf (.ofString "_int2digits") = some .globalImplicit) (h : EVs c env (e :: es) σ fun W σ₁ => CallOk c (.ref (nat_lit 69)) W fun V => Post V σ₁) (he : starEach (e :: es) env = (false, eval e env) :: starEach es env) (hp : (backTo pos (starEach es env)).any (·.1) = false) : EV c env (.Call (.Name (.ofString "_int2digits") p) (e :: es) [] pos) σ Post := EV.call ok (ns_int2digits _) (kp_int2digits _) hx h (by decide) he hp
theorem EV.f_digits2int (ok : c.Ok n) (hx : env.kindOf (.ofString "_digits2int") = some .globalImplicit) (h : EVs c env (e :: es) σ fun W σ₁ => CallOk c (.ref (nat_lit 76)) W fun V => Post V σ₁) (he : starEach (e :: es) env = (false, eval e env) :: starEach es env) (hp : (backTo pos (starEach es env)).any (·.1) = false) : EV c env (.Call (.Name (.ofString "_digits2int") p) (e :: es) [] pos) σ Post := EV.call ok (ns_digits2int _) (kp_digits2int _) hx h (by decide) he hp
theorem EV.f_int_divmod (ok : c.Ok n) (hx : env.kindOf (.ofString "int_divmod") = some .globalImplicit) (h : EVs c env (e :: es) σ fun W σ₁ => CallOk c (.ref (nat_lit 90)) W fun V => Post V σ₁) (he : starEach (e :: es) env = (false, eval e env) :: starEach es env) (hp : (backTo pos (starEach es env)).any (·.1) = false) : EV c env (.Call (.Name (.ofString "int_divmod") p) (e :: es) [] pos) σ Post := EV.call ok (ns_int_divmod _) (kp_int_divmod _) hx h (by decide) he hp
theorem EV.f_in_table_b1 (ok : c.Ok n) (hx : env.kindOf (.ofString "in_table_b1") = some .globalImplicit) (h : EVs c env (e :: es) σ fun W σ₁ => CallOk c (.ref (nat_lit 115)) W fun V => Post V σ₁) (he : starEach (e :: es) env = (false, eval e env) :: starEach es env) (hp : (backTo pos (starEach es env)).any (·.1) = false) : EV c env (.Call (.Name (.ofString "in_table_b1") p) (e :: es) [] pos) σ Post := EV.call ok (ns_in_table_b1 _) (kp_in_table_b1 _) hx h (by decide) he hp
theorem EV.f_law_heaps (ok : c.Ok n) (hx : env.kindOf (.ofString "_law_heaps") = some .globalImplicit) (h : EVs c env (e :: es) σ fun W σ₁ => CallOk c (.ref (nat_lit 120)) W fun V => Post V σ₁) (he : starEach (e :: es) env = (false, eval e env) :: starEach es env) (hp : (backTo pos (starEach es env)).any (·.1) = false) : EV c env (.Call (.Name (.ofString "_law_heaps") p) (e :: es) [] pos) σ Post := EV.call ok (ns_law_heaps _) (kp_law_heaps _) hx h (by decide) he hp
theorem EV.f_law_hidden (ok : c.Ok n) (hx : env.kindOf (.ofString "_law_hidden") = some .globalImplicit) (h : EVs c env (e :: es) σ fun W σ₁ => CallOk c (.ref (nat_lit 127)) W fun V => Post V σ₁) (he : starEach (e :: es) env = (false, eval e env) :: starEach es env) (hp : (backTo pos (starEach es env)).any (·.1) = false) : EV c env (.Call (.Name (.ofString "_law_hidden") p) (e :: es) [] pos) σ Post := EV.call ok (ns_law_hidden _) (kp_law_hidden _) hx h (by decide) he hp
theorem EV.f_law_beside (ok : c.Ok n) (hx : env.kindOf (.ofString "_law_beside") = some .globalImplicit) (h : EVs c env (e :: es) σ fun W σ₁ => CallOk c (.ref (nat_lit 134)) W fun V => Post V σ₁) (he : starEach (e :: es) env = (false, eval e env) :: starEach es env) (hp : (backTo pos (starEach es env)).any (·.1) = false) : EV c env (.Call (.Name (.ofString "_law_beside") p) (e :: es) [] pos) σ Post := EV.call ok (ns_law_beside _) (kp_law_beside _) hx h (by decide) he hp
theorem EV.f_law_kept (ok : c.Ok n) (hx : env.kindOf (.ofString "_law_kept") = some .globalImplicit) (h : EVs c env (e :: es) σ fun W σ₁ => CallOk c (.ref (nat_lit 141)) W fun V => Post V σ₁) (he : starEach (e :: es) env = (false, eval e env) :: starEach es env) (hp : (backTo pos (starEach es env)).any (·.1) = false) : EV c env (.Call (.Name (.ofString "_law_kept") p) (e :: es) [] pos) σ Post := EV.call ok (ns_law_kept _) (kp_law_kept _) hx h (by decide) he hp
theorem EV.f_law_numbers (ok : c.Ok n) (hx : env.kindOf (.ofString "_law_numbers") = some .globalImplicit) (h : EVs c env (e :: es) σ fun W σ₁ => CallOk c (.ref (nat_lit 146)) W fun V => Post V σ₁) (he : starEach (e :: es) env = (false, eval e env) :: starEach es env) (hp : (backTo pos (starEach es env)).any (·.1) = false) : EV c env (.Call (.Name (.ofString "_law_numbers") p) (e :: es) [] pos) σ Post := EV.call ok (ns_law_numbers _) (kp_law_numbers _) hx h (by decide) he hp
theorem EV.f_law_targets (ok : c.Ok n) (hx : env.kindOf (.ofString "_law_targets") = some .globalImplicit) (h : EVs c env (e :: es) σ fun W σ₁ => CallOk c (.ref (nat_lit 151)) W fun V => Post V σ₁) (he : starEach (e :: es) env = (false, eval e env) :: starEach es env) (hp : (backTo pos (starEach es env)).any (·.1) = false) : EV c env (.Call (.Name (.ofString "_law_targets") p) (e :: es) [] pos) σ Post := EV.call ok (ns_law_targets _) (kp_law_targets _) hx h (by decide) he hp
theorem EV.f_law_book (ok : c.Ok n) (hx : env.kindOf (.ofString "_law_book") = some .globalImplicit) (h : EVs c env (e :: es) σ fun W σ₁ => CallOk c (.ref (nat_lit 156)) W fun V => Post V σ₁) (he : starEach (e :: es) env = (false, eval e env) :: starEach es env) (hp : (backTo pos (starEach es env)).any (·.1) = false) : EV c env (.Call (.Name (.ofString "_law_book") p) (e :: es) [] pos) σ Post := EV.call ok (ns_law_book _) (kp_law_book _) hx h (by decide) he hp
theorem EV.f_law_posted (ok : c.Ok n) (hx : env.kindOf (.ofString "_law_posted") = some .globalImplicit) (h : EVs c env (e :: es) σ fun W σ₁ => CallOk c (.ref (nat_lit 163)) W fun V => Post V σ₁) (he : starEach (e :: es) env = (false, eval e env) :: starEach es env) (hp : (backTo pos (starEach es env)).any (·.1) = false) : EV c env (.Call (.Name (.ofString "_law_posted") p) (e :: es) [] pos) σ Post := EV.call ok (ns_law_posted _) (kp_law_posted _) hx h (by decide) he hp
theorem EV.f_law_levels (ok : c.Ok n) (hx : env.kindOf (.ofString "_law_levels") = some .globalImplicit) (h : EVs c env (e :: es) σ fun W σ₁ => CallOk c (.ref (nat_lit 170)) W fun V => Post V σ₁) (he : starEach (e :: es) env = (false, eval e env) :: starEach es env) (hp : (backTo pos (starEach es env)).any (·.1) = false) : EV c env (.Call (.Name (.ofString "_law_levels") p) (e :: es) [] pos) σ Post := EV.call ok (ns_law_levels _) (kp_law_levels _) hx h (by decide) he hp
theorem EV.f_law_rings (ok : c.Ok n) (hx : env.kindOf (.ofString "_law_rings") = some .globalImplicit) (h : EVs c env (e :: es) σ fun W σ₁ => CallOk c (.ref (nat_lit 177)) W fun V => Post V σ₁) (he : starEach (e :: es) env = (false, eval e env) :: starEach es env) (hp : (backTo pos (starEach es env)).any (·.1) = false) : EV c env (.Call (.Name (.ofString "_law_rings") p) (e :: es) [] pos) σ Post := EV.call ok (ns_law_rings _) (kp_law_rings _) hx h (by decide) he hp
theorem EV.f_law_walks (ok : c.Ok n) (hx : env.kindOf (.ofString "_law_walks") = some .globalImplicit) (h : EVs c env (e :: es) σ fun W σ₁ => CallOk c (.ref (nat_lit 182)) W fun V => Post V σ₁) (he : starEach (e :: es) env = (false, eval e env) :: starEach es env) (hp : (backTo pos (starEach es env)).any (·.1) = false) : EV c env (.Call (.Name (.ofString "_law_walks") p) (e :: es) [] pos) σ Post := EV.call ok (ns_law_walks _) (kp_law_walks _) hx h (by decide) he hp
theorem EV.f_divmod_pos (ok : c.Ok n) (hx : env.kindOf (.ofString "_divmod_pos") = some .globalImplicit) (h : EVs c env (e :: es) σ fun W σ₁ => CallOk c (.ref (nat_lit 83)) W fun V => Post V σ₁) (he : starEach (e :: es) env = (false, eval e env) :: starEach es env) (hp : (backTo pos (starEach es env)).any (·.1) = false) : EV c env (.Call (.Name (.ofString "_divmod_pos") p) (e :: es) [] pos) σ Post := EV.call ok (ns_divmod_pos _) (kp_divmod_pos _) hx h (by decide) he hp
theorem EV.f_div2n1n (ok : c.Ok n) (hx : env.kindOf (.ofString "_div2n1n") = some .globalImplicit) (h : EVs c env (e :: es) σ fun W σ₁ => CallOk c (.ref (nat_lit 55)) W fun V => Post V σ₁) (he : starEach (e :: es) env = (false, eval e env) :: starEach es env) (hp : (backTo pos (starEach es env)).any (·.1) = false) : EV c env (.Call (.Name (.ofString "_div2n1n") p) (e :: es) [] pos) σ Post := EV.call ok (ns_div2n1n _) (kp_div2n1n _) hx h (by decide) he hp
end
theorem ifT {A B : Prop} (h : A) : if true = true then A else B := by simpa using h
theorem ifF {A B : Prop} (h : B) : if false = true then A else B := by simpa using h
theorem ifD {A B P : Prop} [Decidable P] (h1 : P → A) (h2 : ¬P → B) : if decide P = true then A else B := by by_cases h : P <;> simp_all
theorem ifQ {A B : Prop} {q : Bool} (h1 : q = true → A) (h2 : q = false → B) : if q = true then A else B := by cases q <;> simp_all
end
section
open PySem PySem.W PySem.Spec PySem.Calls PyProof.Rows
section
variable {c : Cx} {i j : Int} {P : V → Prop} {sc : Scope} {n : Nat} {m : Pin}
theorem log2_lt {k : Nat} {n : Nat} (h : n < 2 ^ k) (h0 : n ≠ 0) : n.log2 < k := (Nat.log2_lt h0).mpr h
theorem intBits_le {k : Nat} (h : i.natAbs < 2 ^ k) : Builtin.Int.intBits i ≤ k := by
  unfold Builtin.Int.intBits
  split
  · lia
  · rename_i h0
    have : i.natAbs ≠ 0 := by simpa using h0
    have := log2_lt h this
    lia
theorem BinOk.fdivS (h0 : 0 < j) (h1 : j < 2 ^ 63) (h : P (.int (i.fdiv j))) : BinOk c .FloorDiv (.int i) (.int j) P := by
  refine BinOk.fdiv (by lia) ?_ h
  unfold Builtin.divisionGoesByPylong
  have : j.natAbs.log2 < 63 := log2_lt (by lia) (by lia)
  have e : (j == 0) = false := by simpa using Int.ne_of_gt h0
  simp only [e, Bool.false_eq_true, if_false]
  have : ¬ (j.natAbs.log2 / 30 + 1 > 300) := by lia
  rw [decide_eq_false this]; rfl
theorem BinOk.powS (h0 : 0 ≤ j) (h1 : j ≤ 1000) (hi : i.natAbs < 2 ^ 63) (h : P (.int (i ^ j.toNat))) : BinOk c .Pow (.int i) (.int j) P := by
  refine BinOk.pow h0 ?_ h
  have := intBits_le hi
  have : (Builtin.Int.intBits i : Int) ≤ 63 := by lia
  calc (Builtin.Int.intBits i : Int) * j ≤ 63 * 1000 := Int.mul_le_mul this h1 h0 (by decide)
    _ ≤ 2 ^ 27 := by decide
theorem BinOk.mulR (hi : j.natAbs < 2 ^ 63) (h : P (.int (i * j))) : BinOk c .Mult (.int i) (.int j) P := .mul (.of_right (Nat.le_trans (intBits_le hi) (by decide))) h
theorem BinOk.mulL (hi : i.natAbs < 2 ^ 63) (h : P (.int (i * j))) : BinOk c .Mult (.int i) (.int j) P := .mul (.of_left (Nat.le_trans (intBits_le hi) (by decide))) h
theorem PV.none {env : Env} {σ : Sto} {Po : Option Int → Sto → Prop} (h : Po Option.none σ) : PV c env Option.none σ Po := h
theorem PV.some {env : Env} {σ : Sto} {e : Expr} {Po : Option Int → Sto → Prop} (h : EV c env e σ fun V σ₁ => ∃ i, V = .int i ∧ Po (Option.some i) σ₁) : PV c env (Option.some e) σ Po := h
theorem Cx.Is.okp (C : c.Is sc n) : (c.pinned m).Ok n := C.ok.pinned m
end
end
section
open PySem PySem.W PySem.Spec PySem.Calls PyProof.Rows
theorem Cx.Is.swap {c : Cx} {sc : Scope} {n : Nat} (C : c.Is sc n) {e : Expr} {tg : Option Expr} {ln : Nat} {b : Bool} (h : ∀ cn L a ccd cl, swapsWith e tg ln (envX cn sc L a ccd cl) = pure b) : swapsWith e tg ln c.env = pure b := by
  have e1 : c.env = envX c.cn sc c.L c.a c.ccd c.cl := by rw [← C.cs]
  rw [e1]; exact h ..
theorem ivs_getD {xs : List Int} {i : Nat} (h : i < xs.length) : (ivs xs).getD i V.none = .int (xs.getD i 0) := by
  rw [List.getD_eq_getElem?_getD, List.getD_eq_getElem?_getD, List.getElem?_map, List.getElem?_eq_getElem h]; rfl
theorem nth_map {α : Type} (g : α → V) {xs : List α} {i : Int} (d : α) (h0 : 0 ≤ i) (h1 : i < xs.length) : nth (xs.map g) i = some (g (xs.getD i.toNat d)) := by
  unfold nth
  have : i.toNat < xs.length := by lia
  rw [if_pos h0, List.getElem?_map, List.getElem?_eq_getElem this, List.getD_eq_getElem?_getD, List.getElem?_eq_getElem this]; rfl
theorem getD_all {α : Type} {p : α → Prop} {xs : List α} (h : ∀ x ∈ xs, p x) {i : Nat} (hi : i < xs.length) (d : α) : p (xs.getD i d) := by
  rw [List.getD_eq_getElem?_getD, List.getElem?_eq_getElem hi]; exact h _ (List.getElem_mem hi)
theorem slc_plain {α : Type} (xs : List α) (lo hi : Option Int) : slc xs lo hi none = (xs.drop (lo.elim 0 (clipAt xs.length))).take (hi.elim xs.length (clipAt xs.length) - lo.elim 0 (clipAt xs.length)) := by
  unfold slc
  rw [sliceBounds_plain]
  simp only [sliceRange_one]
  have := pick_run xs.toArray (lo.elim 0 (clipAt xs.length)) (hi.elim xs.length (clipAt xs.length) - lo.elim 0 (clipAt xs.length))
  simpa using this
theorem slc_to {α : Type} (xs : List α) (k : Nat) : slc xs none (some (k : Int)) none = xs.take k := by
  rw [slc_plain]
  simp only [Option.elim, clipAt_nat, List.drop_zero, Nat.sub_zero]
  rcases Nat.le_total k xs.length with h | h
  · rw [Nat.min_eq_left h]
  · rw [Nat.min_eq_right h, List.take_of_length_le h, List.take_of_length_le (Nat.le_refl _)]
theorem slc_from {α : Type} (xs : List α) (k : Nat) : slc xs (some (k : Int)) none none = xs.drop k := by
  rw [slc_plain]
  simp only [Option.elim, clipAt_nat]
  rcases Nat.le_total k xs.length with h | h
  · rw [Nat.min_eq_left h, List.take_of_length_le (by simp)]
  · rw [Nat.min_eq_right h, List.drop_of_length_le (by simp), List.drop_of_length_le (by simpa using h)]; simp
theorem pick_down {α : Type} (xs : List α) : ∀ (k a : Nat), k ≤ a + 1 → a < xs.length → ((List.range k).map fun (i : Nat) => (((a : Int) + -1 * (i : Int)).toNat)).filterMap (xs[·]?) = (xs.take (a + 1)).reverse.take k
  | 0, a, _, _ => by simp
  | k + 1, a, h, h2 => by
    rw [List.range_succ, List.map_append, List.filterMap_append, pick_down xs k a (by lia) h2, List.take_add_one (l := (xs.take (a + 1)).reverse) (i := k)]
    congr 1
    have e : ((a : Int) + -1 * (k : Int)).toNat = a - k := by lia
    simp only [List.map_cons, List.map_nil, e]
    rw [List.getElem?_reverse (by rw [List.length_take]; lia)]
    rw [List.length_take, Nat.min_eq_left (by lia), List.getElem?_take, if_pos (by lia), show a + 1 - 1 - k = a - k by lia, List.getElem?_eq_getElem (show a - k < xs.length by lia)]
    rw [List.filterMap_cons, List.getElem?_eq_getElem (show a - k < xs.length by lia)]
    simp
theorem slc_rev {α : Type} (xs : List α) : slc xs none none (some (-1)) = xs.reverse := by
  unfold slc
  cases xs with
  | nil => rfl
  | cons x r =>
    have e : sliceBounds none none (some (-1)) (x :: r).length = ((r.length : Int), -1, -1) := by
      simp [sliceBounds]
    rw [e]
    unfold sliceRange
    have e2 : (if (r.length : Int) > -1 then ((r.length : Int) - -1 - -1 - 1) / -(-1) else 0) = ((r.length + 1 : Nat) : Int) := by
      rw [if_pos (by lia), Int.neg_neg, Int.ediv_one]; lia
    simp only [show ¬ ((-1 : Int) > 0) by decide, if_false, e2]
    have := pick_down (x :: r) (r.length + 1) r.length (by lia) (by simp)
    rw [Int.toNat_natCast, this, List.take_of_length_le (by simp), List.take_of_length_le (by simp)]
theorem slc_rev1 {α : Type} (xs : List α) : slc xs none (some 0) (some (-1)) = (xs.drop 1).reverse := by
  unfold slc
  cases xs with
  | nil => rfl
  | cons x r =>
    have e : sliceBounds none (some 0) (some (-1)) (x :: r).length = ((r.length : Int), 0, -1) := by
      simp [sliceBounds]; lia
    rw [e]
    unfold sliceRange
    have e2 : (if (r.length : Int) > 0 then ((r.length : Int) - 0 - -1 - 1) / -(-1) else 0) = ((r.length : Nat) : Int) := by
      rw [Int.neg_neg, Int.ediv_one]; split <;> lia
    simp only [show ¬ ((-1 : Int) > 0) by decide, if_false, e2]
    have := pick_down (x :: r) r.length r.length (by lia) (by simp)
    rw [Int.toNat_natCast, this, List.take_of_length_le (l := x :: r) (by simp)]
    simp
theorem fmod_lt (d : Int) {k : Int} (hk : 0 < k) : 0 ≤ d.fmod k ∧ d.fmod k < k := by
  rw [Int.fmod_eq_emod_of_nonneg _ (Int.le_of_lt hk)]
  exact ⟨Int.emod_nonneg _ (by lia), Int.emod_lt_of_pos _ hk⟩
theorem nth_ivs {xs : List Int} {i : Int} (h0 : 0 ≤ i) (h1 : i < xs.length) : nth (ivs xs) i = some (.int (xs.getD i.toNat 0)) := by
  unfold nth
  have : i.toNat < xs.length := by lia
  rw [if_pos h0, List.getElem?_map, List.getElem?_eq_getElem this, List.getD_eq_getElem?_getD, List.getElem?_eq_getElem this]; rfl
theorem allGet {p : Int → Bool} {xs : List Int} (h : xs.all p = true) {i : Nat} (hi : i < xs.length) : p (xs.getD i 0) = true := by
  rw [List.getD_eq_getElem?_getD, List.getElem?_eq_getElem hi]
  exact List.all_eq_true.mp h _ (List.getElem_mem hi)
/-- a text by its signs -/
noncomputable abbrev S (l : List Nat) : Str := ⟨l.toArray⟩
theorem S_add (a b : List Nat) : S a ++ S b = S (a ++ b) := by
  show Str.append _ _ = _
  simp [Str.append, S]
theorem S_len (a : List Nat) : (S a).length = a.length := by simp [Str.length, S]
theorem S_inj {a b : List Nat} (h : S a = S b) : a = b := by
  have := congrArg (fun s => s.cps.toList) h
  simpa [S] using this
theorem S_eq {a b : List Nat} : (S a == S b) = (a == b) := by
  rw [Bool.eq_iff_iff, beq_iff_eq, beq_iff_eq]
  exact ⟨S_inj, fun e => by rw [e]⟩
section
variable {c : Cx} {env : Env} {z z' hid : List (Addr × Obj)} {σ σ' : Sto} {s s' s₁ : Shared} {x y : Str} {v : Value} {E : Value → Shared → Prop} {e l r : Expr} {es : List Expr} {pos p p' p'' spos px py : Pos} {Post : V → Sto → Prop} {P : V → Prop} {Ps : List V → Sto → Prop} {args : List V} {f : Addr} {n k : Nat} {B : Bool → Prop} {Q : Out → Sto → Prop} {body : List Stmt} {cop : CmpOp} {T : Bool → Sto → Prop} {a b : List Nat}
theorem BinOk.addS (hl : a.length + b.length ≤ 2 ^ 24) (h : P (.str (S (a ++ b)))) : BinOk c .Add (.str (S a)) (.str (S b)) P :=
  BinOk.addStr (by rw [S_add, S_len, List.length_append, sizeLine_eq]; lia) (by rw [S_add]; exact h)
theorem InOk.addS (hl : a.length + b.length ≤ 2 ^ 24) (h : P (.str (S (a ++ b)))) : InOk c .Add (.str (S a)) (.str (S b)) P :=
  InOk.addStr (by rw [S_add, S_len, List.length_append, sizeLine_eq]; lia) (by rw [S_add]; exact h)
theorem BinOk.mulS {i : Int} (h0 : 1 ≤ i) (h1 : i ≤ 100000) {q : Nat} (h : P (.str (S (List.replicate i.toNat q)))) : BinOk c .Mult (.str (S [q])) (.int i) P :=
  BinOk.mulDot h0 h1 q (by
    have : (⟨Array.replicate i.toNat q⟩ : Str) = S (List.replicate i.toNat q) := by simp [S]
    rw [this]; exact h)
theorem EV.s_nil (h : Post (.str (S [])) σ) : EV c env (.Constant (.str (.ofString "")) k pos) σ Post := EV.str (show Post (.str (S [])) σ from h)
theorem EV.s_dot (h : Post (.str (S [46])) σ) : EV c env (.Constant (.str (.ofString ".")) k pos) σ Post := EV.str (show Post (.str (S [46])) σ from h)
theorem EV.s_n (h : Post (.str (S [10])) σ) : EV c env (.Constant (.str (.ofString "\n")) k pos) σ Post := EV.str (show Post (.str (S [10])) σ from h)
theorem EV.s_r (h : Post (.str (S [13])) σ) : EV c env (.Constant (.str (.ofString "\r")) k pos) σ Post := EV.str (show Post (.str (S [13])) σ from h)
theorem EV.s_rn (h : Post (.str (S [13, 10])) σ) : EV c env (.Constant (.str (.ofString "\r\n")) k pos) σ Post := EV.str (show Post (.str (S [13, 10])) σ from h)
theorem EV.s_q (h : Post (.str (S [63])) σ) : EV c env (.Constant (.str (.ofString "?")) k pos) σ Post := EV.str (show Post (.str (S [63])) σ from h)
theorem EV.s_rdn (h : Post (.str (S [13, 46, 10])) σ) : EV c env (.Constant (.str (.ofString "\r.\n")) k pos) σ Post := EV.str (show Post (.str (S [13, 46, 10])) σ from h)
theorem EV.s_rnddrn (h : Post (.str (S [13, 10, 46, 46, 13, 10])) σ) : EV c env (.Constant (.str (.ofString "\r\n..\r\n")) k pos) σ Post := EV.str (show Post (.str (S [13, 10, 46, 46, 13, 10])) σ from h)
/-- two lists, one after the other -/
theorem BinOk.addLst {xs ys : List V} (hsz : xs.length + ys.length ≤ 2 ^ 24) (h : P (.lst (xs ++ ys))) : BinOk c .Add (.lst xs) (.lst ys) P := by
  intro env σ hid z s va vb H ha hb E
  unfold VR at ha hb
  obtain ⟨ad, vs, n, rfl, hp, hr⟩ := ha
  obtain ⟨bd, us, n', rfl, hp', hr'⟩ := hb
  obtain ⟨m, own, X⟩ := id H
  refine add_arrays (h₀ := m.g) (L := c.L) (m := m.m) (news := own ++ (z ++ hid)) X.x1 X.x2 (isL (H.get hp)) (isL (H.get hp')) (fun h' F' N' => ?_) (by rw [List.size_toArray, List.size_toArray, hr.len, hr'.len, sizeLine_eq]; exact hsz)
  obtain ⟨H', hq⟩ := X.newH (t := s.toks) (b := s.heap.objs.size) (o := lobj (vs ++ us) 0) (Nat.le_refl _) F' N'
  refine ⟨_, .lst (xs ++ ys), σ, fun p hp => .tail _ hp, H'.show_ hq, ?_, ⟨rfl, rfl, rfl⟩, h, rfl⟩
  unfold VR
  exact ⟨_, vs ++ us, 0, rfl, .inr (.head _), VRs.mono (PP.mono fun p h => .tail _ h) (hr.app hr')⟩
/-- a list of texts joined by nothing -/
theorem join_S : ∀ xs : List (List Nat), Txt.join (.ofString "") (xs.map S) = S xs.flatten := by
  intro xs
  unfold Txt.join
  rw [StrLaws.glued_eq_join]
  induction xs with
  | nil => rfl
  | cons x r ih =>
    cases r with
    | nil => simp [Str.join]
    | cons y r =>
      simp only [List.map_cons] at ih ⊢
      show (S x ++ Str.ofString "") ++ Str.join (Str.ofString "") (S y :: List.map S r) = _
      rw [ih, show Str.ofString "" = S [] from rfl, S_add, S_add]
      simp
theorem EV.joinS (h : EV c env e σ fun a σ₁ => ∃ xs : List (List Nat), a = .lst (xs.map fun l => .str (S l)) ∧ (xs.map (·.length)).sum + xs.length ≤ 1048576 ∧ Post (.str (S xs.flatten)) σ₁)
    (hline : (p'.endLine == pos.line) = true) (he : starEach [e] env = [(false, eval e env)]) :
    EV c env (.Call (.Attribute (.Constant (.str (.ofString "")) k p) (.ofString "join") p') [e] [] pos) σ Post :=
  EV.join (h.mono fun a σ₁ hPat => by obtain ⟨xs, e, hw, hP⟩ := hPat; exact ⟨xs.map S, by rw [e]; unfold svs; rw [List.map_map]; rfl, joinOk_of_weight (by
    rw [List.map_map, List.length_map]
    have : (Str.length ∘ S) = fun l : List Nat => l.length := by funext l; exact S_len l
    rw [this]; exact hw) (by decide), by rw [join_S]; exact hP⟩) hline he
end
end
section
open PySem PySem.W PySem.Spec PySem.Calls PyProof.Rows
theorem Le.refl (σ : Sto) : Le σ σ := fun _ _ h => h
theorem Le.nil (σ : Sto) : Le [] σ := fun _ _ h => by cases h
theorem Le.cons {σ τ : Sto} {x : Str} {l : LV} (h : sget σ x = some l) (r : Le τ σ) : Le ((x, l) :: τ) σ := fun y k hy => by
  unfold sget at hy
  rw [List.lookup_cons] at hy
  cases e : y == x with
  | true => rw [e] at hy; cases hy; rw [beq_iff_eq.mp e]; exact h
  | false => rw [e] at hy; exact r y k hy
theorem Le.put {σ τ : Sto} {x : Str} {l : LV} (h : Le τ σ) : Le (sput τ x l) (sput σ x l) := fun y k hy => by
  by_cases e : y = x
  · subst e; rw [sget_sput_same] at hy ⊢; exact hy
  · rw [sget_sput_ne e] at hy ⊢; exact h y k hy
/-- whole numbers, nought and above -/
noncomputable abbrev ns (l : List Nat) : List Int := l.map fun (n : Nat) => (n : Int)
theorem nth_last {l : List Nat} (h : l ≠ []) : nth (ivs (ns l)) (-1) = some (.int (lastN l : Nat)) := by
  have hl : 0 < l.length := List.length_pos_iff.mpr h
  unfold nth
  rw [if_neg (by decide), if_pos (by simp; omega)]
  have e : ((-1 : Int) + ((ivs (ns l)).length : Int)).toNat = l.length - 1 := by simp; omega
  rw [e]
  simp [lastN, List.getLast?_eq_getElem?, List.getElem?_eq_getElem (show l.length - 1 < l.length by omega)]
theorem nth_ns {l : List Nat} {i : Int} {k : Nat} (hi : i = (k : Int)) (h : k < l.length) : nth (ivs (ns l)) i = some (.int (l.getD k 0 : Nat)) := by
  subst hi
  rw [nth_ivs (by omega) (by simpa using h)]
  simp [List.getD_eq_getElem?_getD, List.getElem?_eq_getElem h]
theorem any_ns {l : List Nat} {k : Nat} : ((ns l).any (· == (k : Int))) = l.contains k := by
  induction l with
  | nil => rfl
  | cons x r ih =>
    simp only [ns, List.map_cons, List.any_cons, List.contains_cons] at ih ⊢
    rw [ih]
    congr 1
    rw [Bool.eq_iff_iff, beq_iff_eq, beq_iff_eq]
    omega
section
variable {c : Cx} {env : Env} {σ σ' : Sto} {x y : Str} {e : Expr} {pos p p' px : Pos} {n : Nat} {Q : Out → Sto → Prop} {body rest : List Stmt}
noncomputable abbrev In (I : Nat → Sto → Prop) (i : Nat) (σ : Sto) : Prop := ∃ τ, I i τ ∧ Le τ σ
theorem S1.forRangeC (ok : c.Ok n) (hxr : c.env.kindOf (.ofString "range") = some .globalImplicit) (hx : Storable c x)
    (h : EV c c.env e σ fun a σ₁ => ∃ (k : Nat) (I : Nat → Sto → Prop), a = .int k ∧ k < 2 ^ 40 ∧ In I 0 σ₁ ∧ (∀ i τ, i < k → I i τ → ST c body (sput τ x (.frz (.int i))) (LE (In I (i + 1)) (SQ c rest Q))) ∧ ∀ τ, I k τ → ST c rest τ Q)
    (he : starEach [e] c.env = [(false, eval e c.env)])
    (hs : ∀ v, foldedSetIterable (.Call (.Name (.ofString "range") p) [e] [] p') c.env v = pure v) : S1 c (.For (.Name x px) (.Call (.Name (.ofString "range") p) [e] [] p') body [] pos) σ (SQ c rest Q) :=
  S1.forRange ok (ns_range _) hxr hx (h.mono fun a σ₁ hPat => by obtain ⟨k, I, e1, hk, h0, step, done⟩ := hPat; exact ⟨k, e1, hk, In I, h0, fun i σ hi hPat => by obtain ⟨τ, hI, hl⟩ := hPat; exact (step i τ hi hI).weaken hl.put, fun σ hPat => by obtain ⟨τ, hI, hl⟩ := hPat; exact (done τ hI).weaken hl⟩) he hs
theorem S1.forListC (hx : Storable c x)
    (h : EV c c.env e σ fun a σ₁ => ∃ (xs : List V) (I : Nat → Sto → Prop), a = .lst xs ∧ In I 0 σ₁ ∧ (∀ i τ (hi : i < xs.length), I i τ → ST c body (sput τ x (.frz xs[i])) (LE (In I (i + 1)) (SQ c rest Q))) ∧ ∀ τ, I xs.length τ → ST c rest τ Q)
    (hs : ∀ v, foldedSetIterable e c.env v = pure v) : S1 c (.For (.Name x px) e body [] pos) σ (SQ c rest Q) :=
  S1.forList hx (h.mono fun a σ₁ hPat => by obtain ⟨xs, I, e1, h0, step, done⟩ := hPat; exact ⟨xs, In I, e1, h0, fun i σ hi hPat => by obtain ⟨τ, hI, hl⟩ := hPat; exact (step i τ hi hI).weaken hl.put, fun σ hPat => by obtain ⟨τ, hI, hl⟩ := hPat; exact (done τ hI).weaken hl⟩) hs
theorem S1.forStrC (hx : Storable c x)
    (h : EV c c.env e σ fun a σ₁ => ∃ (l : List Nat) (I : Nat → Sto → Prop), a = .str (S l) ∧ In I 0 σ₁ ∧ (∀ i τ (hi : i < l.length), I i τ → ST c body (sput τ x (.frz (.str (S [l[i]])))) (LE (In I (i + 1)) (SQ c rest Q))) ∧ ∀ τ, I l.length τ → ST c rest τ Q)
    (hs : ∀ v, foldedSetIterable e c.env v = pure v) : S1 c (.For (.Name x px) e body [] pos) σ (SQ c rest Q) :=
  S1.forStr hx (h.mono fun a σ₁ hPat => by obtain ⟨l, I, e1, h0, step, done⟩ := hPat; exact ⟨S l, In I, e1, h0, fun i σ hi hPat => by obtain ⟨τ, hI, hl⟩ := hPat; exact (step i τ (by simpa using hi) hI).weaken hl.put, fun σ hPat => by obtain ⟨τ, hI, hl⟩ := hPat; exact (done τ (by simpa using hI)).weaken hl⟩) hs
theorem EV.sliceN {lo hi st : Option Expr} {xs : List V} {Post : V → Sto → Prop} (hx : Holds σ x xs) (h : PV c env lo σ fun i σ₂ => PV c env hi σ₂ fun j σ₃ => PV c env st σ₃ fun k σ₄ => sget σ₄ x = sget σ x ∧ xs.length ≤ sizeLine ∧ k ≠ some 0 ∧ Post (.lst (slc xs i j k)) σ₄)
    (hs : ∀ o i, ∃ ops, subscripted (.Slice lo hi st p) false o i = operate ops (getItem o i)) (h1 : (x == ("__debug__" : Str)) = false) (h2 : (x == ("__classdict__" : Str)) = false) : EV c env (.Subscript (.Name x p') (.Slice lo hi st p) pos) σ Post := EVO.toEV (EVO.sliceN hx h hs h1 h2)
theorem EV.neg {i : Int} {k : Nat} {Post : V → Sto → Prop} (h : Post (.int (-i)) σ) : EV c env (.UnaryOp .USub (.Constant (.int i) k p) p') σ Post := fun hid z s H E =>
  PyProof.Rows.UnaryOp_ (wpAny_Constant_int (PyProof.Rows.neg_int (EP.int H h)))
theorem TV.mono {t : Expr} {T T' : Bool → Sto → Prop} (h : TV c env t σ T) (k : ∀ b σ, T b σ → T' b σ) : TV c env t σ T' := fun hid z s H E =>
  wpAny_mono (h hid z s H E) (fun b s' hPat => by obtain ⟨z', σ', a, d, e, f⟩ := hPat; exact ⟨z', σ', a, d, e, k _ _ f⟩) fun _ _ e => e
theorem TV.weaken {t : Expr} {T : Bool → Sto → Prop} {τ : Sto} (hl : Le τ σ) (h : TV c env t τ T) : TV c env t σ T := fun hid z s H E => h hid z s (H.weaken hl) E
/-- a loop that runs while a test holds: I k τ, k more turns at most -/
theorem S1.whileC {t : Expr} (k : Nat) (I : Nat → Sto → Prop) (h0 : In I k σ)
    (turn : ∀ k τ, I k τ → TV c c.env t τ fun b σ₁ => if b then ST c body σ₁ (LE (fun σ' => ∃ k', k' < k ∧ In I k' σ') (SQ c rest Q)) else ST c rest σ₁ Q) : S1 c (.While t body [] pos) σ (SQ c rest Q) :=
  S1.while_ (k := k) (In I) h0 fun k σ hPat => by obtain ⟨τ, hI, hl⟩ := hPat; exact TV.weaken hl ((turn k τ hI).mono fun b σ₁ h => by cases b <;> exact h)
end
end
section
open PySem PySem.W PySem.Spec PySem.Calls PyProof.Rows
theorem fmod_nat (a b : Nat) : ((a : Int)).fmod (b : Int) = ((a % b : Nat) : Int) := by
  rw [Int.fmod_eq_emod_of_nonneg _ (by lia)]; exact (Int.natCast_emod a b).symm
theorem fdiv_nat (a b : Nat) : ((a : Int)).fdiv (b : Int) = ((a / b : Nat) : Int) := by
  rw [Int.fdiv_eq_ediv_of_nonneg _ (by lia)]; exact (Int.natCast_ediv a b).symm
theorem ns_perm {l : List Nat} {ys : List Int} (h : ys.Perm (ns l)) : ∃ zs : List Nat, ys = ns zs ∧ zs.Perm l := by
  refine ⟨ys.map Int.toNat, ?_, ?_⟩
  · have : ∀ y ∈ ys, 0 ≤ y := fun y hy => by
      obtain ⟨n, _, rfl⟩ := List.mem_map.mp (h.mem_iff.mp hy); lia
    unfold ns
    rw [List.map_map]
    conv => lhs; rw [← List.map_id ys]
    apply List.map_congr_left
    intro y hy
    have := this y hy
    simp; lia
  · have := h.map Int.toNat
    unfold ns at this
    rw [List.map_map] at this
    have e : (Int.toNat ∘ fun (n : Nat) => (n : Int)) = id := by funext n; simp
    rw [e, List.map_id] at this
    exact this
theorem idxOf_ns (x : Nat) : ∀ l : List Nat, (ns l).idxOf (x : Int) = l.idxOf x
  | [] => rfl
  | y :: r => by
    simp only [ns, List.map_cons, List.idxOf_cons]
    have ih := idxOf_ns x r
    by_cases e : y = x
    · subst e; simp
    · have e1 : ((y : Int) == (x : Int)) = false := by simp; lia
      have e2 : (y == x) = false := by simp [e]
      rw [e1, e2]
      simp only [cond_false]
      rw [show List.idxOf (x : Int) (r.map fun (n : Nat) => (n : Int)) = r.idxOf x from ih]
theorem weight_ns : ∀ l : List Nat, (∀ x ∈ l, x < 2 ^ 20) → PyData.weightAll ((ns l).map PyData.int) ≤ 22 * l.length
  | [], _ => by simp only [ns, List.map_nil]; unfold PyData.weightAll; lia
  | x :: r, h => by
    have ih := weight_ns r fun y hy => h y (.tail _ hy)
    simp only [ns, List.map_cons, List.length_cons] at ih ⊢
    unfold PyData.weightAll PyData.weight
    have hx := h x (.head _)
    have : (if ((x : Int) == 0) = true then 0 else (x : Int).natAbs.log2 + 1) ≤ 20 := by
      split
      · lia
      · rename_i h0
        have h1 : x ≠ 0 := by intro e; subst e; exact h0 rfl
        have : (x : Int).natAbs = x := by lia
        rw [this]
        have := (Nat.log2_lt h1).mpr hx
        lia
    lia
theorem lay_ns {l : List Nat} (h : ∀ x ∈ l, x < 2 ^ 20) (hl : l.length ≤ 1000) : PyData.layable0 (.list ((ns l).map .int)) = true := by
  unfold PyData.layable0
  rw [Bool.and_eq_true, Bool.and_eq_true]
  refine ⟨⟨?_, decide_eq_true ?_⟩, decide_eq_true ?_⟩
  · unfold PyData.canLay0; exact canLayAll_ints _
  · unfold PyData.depth; rw [PyProof.Rows.depthAll_ints]; lia
  · unfold PyData.weight
    have := weight_ns l h; lia
section
open PyProof.Rows.LCg
variable {c : Cx} {env : Env} {iter : Expr} {σ : Sto}
theorem SrcV.listF {R : Nat → (Nat → V) → Sto → Prop} (h : ∀ m, EV (c.pinned m) env iter σ fun a σ₁ => ∃ (xs : List V) (items : Nat → V), a = .lst xs ∧ xs.length ≤ sizeLine ∧ (∀ i (hi : i < xs.length), items i = xs[i]) ∧ R xs.length items σ₁) : SrcV c env iter σ R := by
  intro Fin elt x scope cl hid z s m E H k
  refine wpAny_mono (h m hid z s H E) (fun va s₁ hPat => ?_) fun _ _ e => e
  obtain ⟨z₁, a, σ₁, hz₁, H₁, ha, sm₁, xs, items, e, hl, hit, hR⟩ := hPat
  subst e
  unfold VR at ha
  obtain ⟨ad, vs, q, rfl, hp, hr⟩ := ha
  obtain ⟨m₁, own, X⟩ := H₁
  obtain rfl : m₁ = m := X.x5.pin m rfl
  have hlen : vs.toArray.size = xs.length := by rw [List.size_toArray, hr.len]
  refine .inl ⟨ad, vs.toArray, _, rfl, rfl, X.x1, X.x2, ?_, by rw [hlen]; exact hl, fun s₂ ⟨g, e⟩ => ?_⟩
  · rcases hp with hp | hp
    · exact .inl ⟨_, X.x5.stays _ _ hp, rfl, q, rfl⟩
    · exact .inr ⟨_, List.mem_append_right _ (List.mem_append_left _ hp), rfl, q, rfl⟩
  · rw [hlen]
    refine k z₁ xs.length _ σ₁ s₁ own _ _ hz₁ sm₁ X hR (fun i v hv => ?_) (fun own' z' ho' hz' => ?_) s₂ (by subst e; exact ⟨rfl, rfl, rfl⟩)
    · have hv' : vs[i]? = some v := by simpa using hv
      have hi : i < xs.length := by rw [← hr.len]; exact (List.getElem?_eq_some_iff.mp hv').1
      obtain ⟨u, hu, hw⟩ := hr.get (List.getElem?_eq_getElem hi)
      rw [hv'] at hu; cases hu
      rw [hit i hi]; exact hw
    · rcases hp with hp | hp
      · exact .inl ⟨_, X.x5.stays _ _ hp, rfl, q, rfl⟩
      · exact .inr ⟨_, List.mem_append_right _ (List.mem_append_left _ (hz' _ hp)), rfl, q, rfl⟩
theorem SrcV.ns {R : Nat → (Nat → V) → Sto → Prop} (h : ∀ m, EV (c.pinned m) env iter σ fun a σ₁ => ∃ l : List Nat, a = .lst (ivs (ns l)) ∧ l.length ≤ 2 ^ 24 ∧ R l.length (fun i => .int ((l.getD i 0 : Nat) : Int)) σ₁) : SrcV c env iter σ R :=
  SrcV.listF fun m => (h m).mono fun a σ₁ hPat => by obtain ⟨l, e, hl, hR⟩ := hPat; exact ⟨_, fun i => .int ((l.getD i 0 : Nat) : Int), e, by rw [List.length_map, List.length_map, sizeLine_eq]; exact hl, fun i hi => by
    simp at hi
    simp [List.getD_eq_getElem?_getD, hi], by rw [List.length_map, List.length_map]; exact hR⟩
end
theorem gen_ns {l : List Nat} {g : Nat → Nat} : (List.range l.length).map (fun i => V.int ((g (l.getD i 0) : Nat) : Int)) = ivs (ns (l.map g)) := by
  apply List.ext_getElem
  · simp
  · intro i h1 h2
    simp at h1 h2
    simp [List.getD_eq_getElem?_getD, h2]
section
variable {c : Cx} {P : V → Prop}
theorem CallOk.sortedNs {l : List Nat} (h64 : l.length < 64) (h : P (.lst (ivs (ns (msort l))))) : CallOk c (.builtin "sorted") [.lst (ivs (ns l))] P :=
  CallOk.sortedInts (by simpa using h64) fun ys hp hs => by
    obtain ⟨zs, rfl, hz⟩ := ns_perm hp
    have : zs = msort l := msort_unique hz (by
      unfold ns at hs
      rw [List.pairwise_map] at hs
      exact hs.imp fun h => by lia)
    rw [this]; exact h
end
noncomputable def JP (M : Sto → Prop) (Q : Out → Sto → Prop) : Out → Sto → Prop
  | .nxt, σ => ∃ τ, M τ ∧ Le τ σ
  | .brk, σ => Q .brk σ
  | .ret v, σ => Q (.ret v) σ
section
variable {c : Cx} {M : Sto → Prop} {Q : Out → Sto → Prop} {σ : Sto} {v : V} {t : Expr} {b o rest : List Stmt} {pos : Pos}
theorem JP.nx (h : ∃ τ, M τ ∧ Le τ σ) : JP M Q .nxt σ := h
theorem JP.bk (h : Q .brk σ) : JP M Q .brk σ := h
theorem JP.rt (h : Q (.ret v) σ) : JP M Q (.ret v) σ := h
/-- an if whose two ends meet -/
theorem S1.ifC (M : Sto → Prop) (h : TV c c.env t σ fun q σ₁ => if q then ST c b σ₁ (JP M Q) else ST c o σ₁ (JP M Q)) (k : ∀ τ, M τ → ST c rest τ Q) : S1 c (.If t b o pos) σ (SQ c rest Q) := by
  have up : ∀ (o : Out) σ, JP M Q o σ → SQ c rest Q o σ := fun o σ h => by
    cases o with
    | nxt => obtain ⟨τ, hM, hl⟩ := h; exact (k τ hM).weaken hl
    | brk => exact h
    | ret v => exact h
  refine S1.if_ (h.mono fun q σ₁ h => ?_)
  cases q with
  | true => exact (show ST c b σ₁ (JP M Q) from h).mono up
  | false => exact (show ST c o σ₁ (JP M Q) from h).mono up
end
end
section
open PySem PySem.W PySem.Spec PySem.Calls PyProof.Rows
/-- the heap behind the caller, when the frames in it were marked during a call -/
theorem turn_back {c : Cx} {m : Pin} {s s' : Shared} {news news' : List (Addr × Obj)} (G : GOk c m.g) (F : Fr m.g c.L s.heap m.m) (N : News m.g c.L s.heap news) {g' : Heap} {L' : Addr} {m' : Str → Option Value}
    (T : KtsTurn (c.L :: c.fs) (hideAll s.heap (news.map (·.1))) g') (F' : Fr g' L' s'.heap m') (N' : News g' L' s'.heap news') (hs : c.still = false) :
    ∃ h', GOk c h' ∧ Fr h' c.L s'.heap m.m ∧ News h' c.L s'.heap news' := by
  have st : ∀ b o, m.g.get? b = some o → (hideAll s.heap (news.map (·.1))).get? b = some o := fun b o e => hideAll_get _ (F.keep b o e) fun q => by
    obtain ⟨p, hp, e1⟩ := List.mem_map.mp q
    have := (N p hp).2.2
    rw [e1, e] at this; cases this
  obtain ⟨oL, es, ep, hL, hd, hf1, hf2⟩ := F.ns
  have nL : c.L ∉ news.map (·.1) := fun q => by
    obtain ⟨p, hp, e1⟩ := List.mem_map.mp q
    exact (N p hp).2.1 e1
  have hLg := hideAll_get (news.map (·.1)) hL nL
  have nL0 : m.g.get? c.L = none := kts_self F
  obtain ⟨sl, hsl⟩ := T.up hLg
  obtain ⟨T1, S1⟩ := kts_turn_at (h := s'.heap) (fs := c.fs) (g := m.g)
    (fun b hb => by obtain ⟨_, o, ho, _⟩ := G.below.frames.mem hb; exact ⟨o, ho⟩)
    (fun b o e hn => F'.keep b o (T.other b o (st b o e) fun q => by
      rcases List.mem_cons.mp q with q | q
      · rw [q, nL0] at e; cases e
      · exact hn q))
    (fun b o e hb => by
      obtain ⟨sl', h1⟩ := T.up (st b o e)
      exact ⟨sl', F'.keep _ _ h1⟩)
  have B1 : Below c.A₀ c.base c.outer (ktsHeap s'.heap c.fs m.g) := ⟨G.below.stack, fun b o e => T1.other b o (G.below.stays b o e) (fun hb => by
    rw [(G.below.frames.mem hb).1] at e; cases e), G.below.frames.of_keeps fun b o e _ => by
    obtain ⟨sl', h1⟩ := T1.up e
    exact ⟨_, h1, rfl⟩⟩
  refine ⟨ktsHeap s'.heap c.fs m.g, ⟨G.turn.trans T1, B1, G.dicts.turn T1, fun e => by rw [hs] at e; cases e⟩, ⟨⟨_, es, ep, F'.keep _ _ hsl, hd, hf1, hf2⟩, S1, by rw [T1.size]; exact F.above⟩, fun p hp => ⟨(N' p hp).1, fun q => ?_, ?_⟩⟩
  · have := (N' p hp).2.2
    rw [q, hsl] at this; cases this
  · refine T1.none_ _ ?_
    cases q : m.g.get? p.1 with
    | none => rfl
    | some o =>
      obtain ⟨sl', h1⟩ := T.up (st _ _ q)
      have := (N' p hp).2.2
      rw [h1] at this; cases this
/-- what a def gives back, where the frames behind may be marked -/
inductive FTP (c : Cx) (hid z : List (Addr × Obj)) (m : Pin) (s : Shared) (rv : V) (v : Value) (s' : Shared) : Prop
  | mk (z' tb' : List (Addr × Obj)) (g' : Heap) (h1 : Sub z z') (h0 : GOk c g') (h2 : Fr g' c.L s'.heap m.m) (h3 : News g' c.L s'.heap (tb' ++ (z' ++ hid))) (h4 : Sep tb' (z' ++ hid)) (h5 : Sep z' hid) (h6 : Tb c.keep z' tb') (h7 : VR (PP c.base z') rv v) (h8 : Same s s')
noncomputable def FnT (f : Addr) (n : Nat) (args : List V) (rv : V) : Prop :=
  ∀ (c : Cx), c.Ok n → c.still = false → ∀ hid z tb s (m : Pin) vs, GOk c m.g → Fr m.g c.L s.heap m.m → News m.g c.L s.heap (tb ++ (z ++ hid)) → Sep tb (z ++ hid) → Sep z hid → Tb c.keep z tb → VRs (PP c.base z) args vs → ∀ E,
    wpAny c.M c.A (call (.ref f) vs) (FTP c hid z m s rv) E s
theorem FnT.callOk {c : Cx} {f : Addr} {n : Nat} {args : List V} {rv : V} {P : V → Prop} (h : FnT f n args rv) (ok : c.Ok n) (hst : c.still = false) (hpin : c.pin = none) (hp : P rv) : CallOk c (.ref f) args P := fun env σ hid z s vs H hv E => by
  obtain ⟨m, own, X⟩ := H
  obtain ⟨F, N, S1, S2, k, V, U, C⟩ := id X
  have nt : ∀ {p}, p ∈ own → NT p → p ∈ restOf own := fun hp hn => mem_rest hp (C.2.nt N hp hn)
  have ofR : ∀ {p}, p ∈ restOf own → p ∈ own := fun h => (List.mem_filter.mp h).1
  have ofT : ∀ {p}, p ∈ tabsOf own → p ∈ own := fun h => (List.mem_filter.mp h).1
  have perm : ∀ q, q ∈ tabsOf own ++ (z ++ (restOf own ++ hid)) → q ∈ own ++ (z ++ hid) := fun q hq => by
    simp only [List.mem_append] at hq ⊢
    rcases hq with h | h | h | h
    · exact .inl (ofT h)
    · exact .inr (.inl h)
    · exact .inl (ofR h)
    · exact .inr (.inr h)
  refine wpAny_mono (h c ok hst (restOf own ++ hid) z (tabsOf own) s m vs k.gok F (fun q hq => N q (perm q hq)) (fun q hq r hr => ?_) (fun q hq r hr => ?_) C.2.tabs hv E) (fun v s' ⟨z', tb', g', hz, G', F', N', S1', S2', tb, hr, sm⟩ => ?_) fun _ _ e => e
  · rcases List.mem_append.mp hr with hr | hr
    · exact S1 q (ofT hq) r (List.mem_append_left _ hr)
    · rcases List.mem_append.mp hr with hr | hr
      · exact tab_ne (List.mem_filter.mp hq).2 (by have := (List.mem_filter.mp hr).2; simpa using this)
      · exact S1 q (ofT hq) r (List.mem_append_right _ hr)
  · rcases List.mem_append.mp hr with hr | hr
    · exact Ne.symm (S1 r (ofR hr) q (List.mem_append_left _ hq))
    · exact S2 q hq r hr
  · have perm' : ∀ q, q ∈ (tb' ++ restOf own) ++ (z' ++ hid) → q ∈ tb' ++ (z' ++ (restOf own ++ hid)) := fun q => by simp only [List.mem_append]; grind
    refine ⟨z', rv, σ, hz, ⟨⟨m.m, g'⟩, tb' ++ restOf own, F', fun q hq => N' q (perm' q hq), fun q hq r hr => ?_, fun q hq r hr => S2' q hq r (List.mem_append_right _ hr), ⟨G', k.kind, k.globals, k.builtins, fun m₀ e => by rw [hpin] at e; cases e⟩,
      fun x l hx => show VarOk c env m (tb' ++ restOf own) z' hid x l from (V x l hx).monoN (fun p hp hn => List.mem_append_right _ (nt hp hn)) hz fun _ h => h, U, fun e => ?_, tb.mono (fun _ h => h) fun _ _ h => List.mem_append_left _ h⟩, hr, sm, hp, rfl⟩
    · rcases List.mem_append.mp hq with hq | hq
      · rcases List.mem_append.mp hr with hr | hr
        · exact S1' q hq r (List.mem_append_left _ hr)
        · exact S1' q hq r (List.mem_append_right _ (List.mem_append_right _ hr))
      · rcases List.mem_append.mp hr with hr | hr
        · exact Ne.symm (S2' r hr q (List.mem_append_left _ hq))
        · exact S1 q (ofR hq) r (List.mem_append_right _ hr)
    · refine ⟨fun x cd hx => ?_, (C.1 e).2⟩
      obtain ⟨o, v₀, a, d⟩ := (C.1 e).1 x cd hx
      exact ⟨o, v₀, a.imp (fun a => List.mem_append_right _ (nt a (.cell d))) id, d⟩
theorem cells_none : ∀ {names : List (Str × NameKind)} {k : Nat} {acc : List (Str × Addr)}, (∀ x ∈ names, x.2 ≠ .cell) → cellsFrom k names acc = acc
  | [], k, acc, _ => rfl
  | (y, kd) :: r, k, acc, h => by
    unfold cellsFrom
    have := h (y, kd) (.head _)
    have e : (kd == NameKind.cell) = false := by cases kd <;> first | rfl | exact absurd rfl this
    simp only [e, Bool.false_eq_true, if_false]
    exact cells_none fun x hx => h x (.tail _ hx)
theorem lookup_rev {ps : List Str} {vs : List Value} (hl : vs.length = ps.length) (hn : ps.Nodup) {x : Str} {v : Value} (h : (x, v) ∈ ps.zip vs) : (ps.zip vs).reverse.lookup x = some v := by
  have nd : ((ps.zip vs).reverse.map (·.1)).Nodup := by rw [List.map_reverse, zip_fst hl]; exact ((List.reverse_perm ps).nodup_iff).mpr hn
  have hm : (x, v) ∈ (ps.zip vs).reverse := List.mem_reverse.mpr h
  generalize (ps.zip vs).reverse = l at nd hm
  induction l with
  | nil => cases hm
  | cons p r ih =>
    rw [List.map_cons, List.nodup_cons] at nd
    rw [List.lookup_cons]
    rcases List.mem_cons.mp hm with e | hm
    · subst e; simp
    · have : x ≠ p.1 := fun e => nd.1 (by rw [← e]; exact List.mem_map_of_mem hm)
      rw [show (x == p.1) = false by simpa using this]
      exact ih nd.2 hm
/-- an error's road may pass this frame -/
structure EOk (c : Cx) (E : Value → Shared → Prop) : Prop where
  own : PassesOwn c.M c.A c.env E
  caught : ∀ e, PassesOwnAt c.M (c.A.mark (some (.ref e))) c.A c.env E
/-- such a contract is shown by the body -/
theorem FnT.introE {f : Addr} {n : Nat} {args : List V} {rv : V} {name qual : Str} {params : Arguments} {body : List Stmt} {scope : Scope} {pm cdv : Value} {ps : List Str}
    (ho : ∀ P, (K P).lookup f = some ⟨.type "function", none, .func (fnOf name qual params body scope .none .none .none pm none cdv .none), #[]⟩) (hcd : ∀ P, codeIn (K P) cdv qual = true)
    (hbind : ∀ vs : List Value, vs.length = ps.length → bindArgs (fnOf name qual params body scope .none .none .none pm none cdv .none) ⟨vs, []⟩ = pure (ps.zip vs))
    (hlen : args.length = ps.length) (hkinds : (ps.all fun y => scope.names.lookup y == some .local) = true) (hnp : ps.Nodup)
    (hcell : ∀ x ∈ scope.names, x.2 ≠ .cell) (hco : scope.isCoroutine = false) (hgen : scope.isGenerator = false) (hk : scope.kind = .function)
    (h : ∀ c : Cx, c.Is scope n → c.still = false → ∀ dp0 un0, c.dp = dp0 + 1 → c.un = un0 + 3 → ∀ hid z s, At c hid z c.env (frzs ps args) s → ∀ E, EOk c E → wpAny c.M c.A (execs body c.env) (SP c hid z s fun o _ => o = .ret rv) E s) : FnT f (n + 1) args rv := by
  intro c ok hst hid z tb s m vs G F N ST S T hv E
  have hl : vs.length = ps.length := by rw [hv.len, hlen]
  have X : (K c.w.params).In s.heap := ok.kin.keeps fun b o e => F.keep b o (G.below.stays b o e)
  have Tp := ok.top.keeps fun b o e => F.keep b o (G.below.stays b o e)
  have hroom : c.A.depth < recursionLimit := by have := ok.room; show c.dp < _; lia
  refine wpAny_call ?_
  obtain ⟨FG, BG, st, _⟩ := groundX (A := c.A) (A₀ := c.A₀) (env := c.env) (R := fun _ _ => True) G.below F N rfl rfl ok.fn
  refine codeAny_call_def (fd := fnOf name qual params body scope .none .none .none pm none cdv .none) (body := body) (binds := ps.zip vs) hroom (X _ _ (ho _)) rfl Tp.nolimit (codeRec_of X (hcd _)) rfl (BindsTo.of_eq (hbind vs hl)) hcell ?_ (fun h₁ hns hk₁ => ?_) hco hgen hk
  · intro y hy
    rw [List.all_eq_true] at hkinds
    have : y.1 ∈ ps := by rw [← zip_fst hl]; exact List.mem_map_of_mem hy
    exact beq_iff_eq.mp (hkinds _ this)
  let g := hideAll s.heap ((tb ++ (z ++ hid)).map (·.1))
  let c' : Cx := { c with dp := c.dp + 1, un := c.un + 3, cn := qual, cs := scope, a := f, ccd := cdv, cl := [], outer := c.env :: c.outer, A₀ := c.A, h₀ := g, L := s.heap.objs.size, pin := none, still := false, keep := [] }
  have ok' : c'.Ok n := ⟨ok.kin, ok.top, ok.code1, ok.code2, hk, by have := ok.room; show c.dp + 1 + n < _; lia, by have := ok.units; show c.un + 3 + 8 * n + 8 < _; lia⟩
  have C' : c'.Is scope n := ⟨rfl, rfl, .inl ⟨0, (cells_none hcell).symm, rfl⟩, ok'⟩
  have G' : GOk c' g := ⟨KtsTurn.refl, BG, fun b hb => by
    have hb' : b ∈ c.L :: c.fs := hb
    rcases List.mem_cons.mp hb' with rfl | hb'
    · obtain ⟨o, es, ep, e, hd, _⟩ := FG.ns
      exact ⟨o, es, ep, e, hd⟩
    · obtain ⟨o, es, n, e, hd⟩ := G.dicts b hb'
      exact ⟨o, es, n, FG.keep _ _ e, hd⟩, fun e => nomatch e⟩
  have F' : Fr g s.heap.objs.size h₁ (fun y => (ps.zip vs).reverse.lookup y) := ⟨hns, fun b o e => hk₁ b o (of_hideAll _ e), Nat.le_of_eq (hideAll_size _ _)⟩
  have N' : News g s.heap.objs.size h₁ (tb ++ (z ++ hid)) := fun p hp => ⟨hk₁ _ _ (N p hp).1, Nat.ne_of_lt (Heap.lt_size (N p hp).1), hideAll_none _ (List.mem_map_of_mem hp)⟩
  have H' : At c' hid z c'.env (frzs ps args) { s with heap := h₁, toks := s.toks + (ps.zip vs).length } := by
    refine ⟨⟨_, g⟩, tb, F', N', ST, S, ⟨G', hk, rfl, rfl, fun _ e => nomatch e⟩, fun x l hx => ?_, fun x y b xs ys hx _ => ?_, fun _ => ⟨fun x cd hx => (by cases (show (none : Option Addr) = some cd from hx)), fun x y cd hx _ => (by cases (show (none : Option Addr) = some cd from hx)), fun y q us hy => by obtain ⟨V, v, e, _⟩ := frzs_get hv hl hy; cases e⟩, T.keep fun _ h => nomatch h⟩
    · obtain ⟨V, v, rfl, hm, hr⟩ := frzs_get hv hl hx
      refine ⟨v, ?_, hr⟩
      have hxp : x ∈ ps := by rw [← zip_fst hl]; exact List.mem_map_of_mem hm
      rw [List.all_eq_true] at hkinds
      exact .inl ⟨beq_iff_eq.mp (hkinds x hxp), .inl ⟨rfl, lookup_rev hl hnp hm⟩⟩
    · obtain ⟨V, v, e, _⟩ := frzs_get hv hl hx
      cases e
  refine wpAny_mono (h c' C' rfl c.dp c.un rfl rfl hid z _ H' _ ⟨by passes_own, fun e => by passes_own⟩) (fun fl s' hPat => ?_) fun _ _ e => e
  obtain ⟨z', o, σ', hz, H2, hor, sm, hp⟩ := hPat
  subst hp
  obtain ⟨v, rfl, hv'⟩ := hor
  obtain ⟨m', own', F2, N2, S12, S22, k2, _, _, _, T2⟩ := H2
  obtain ⟨h', G3, F3, N3⟩ := turn_back (c := c) G F N (k2.gok.turn) F2 N2 hst
  have ofT : ∀ {p}, p ∈ tabsOf own' → p ∈ own' := fun h => (List.mem_filter.mp h).1
  refine ⟨z', tabsOf own', h', hz, G3, F3, fun p hp => N3 p ?_, fun p hp q hq => S12 p (ofT hp) q hq, S22, T2.tabs.keep fun p hp => hz p (T.kept p hp), hv', sm⟩
  rcases List.mem_append.mp hp with hp | hp
  · exact List.mem_append_left _ (ofT hp)
  · exact List.mem_append_right _ hp
theorem FnT.intro {f : Addr} {n : Nat} {args : List V} {rv : V} {name qual : Str} {params : Arguments} {body : List Stmt} {scope : Scope} {pm cdv : Value} {ps : List Str}
    (ho : ∀ P, (K P).lookup f = some ⟨.type "function", none, .func (fnOf name qual params body scope .none .none .none pm none cdv .none), #[]⟩) (hcd : ∀ P, codeIn (K P) cdv qual = true)
    (hbind : ∀ vs : List Value, vs.length = ps.length → bindArgs (fnOf name qual params body scope .none .none .none pm none cdv .none) ⟨vs, []⟩ = pure (ps.zip vs))
    (hlen : args.length = ps.length) (hkinds : (ps.all fun y => scope.names.lookup y == some .local) = true) (hnp : ps.Nodup)
    (hcell : ∀ x ∈ scope.names, x.2 ≠ .cell) (hco : scope.isCoroutine = false) (hgen : scope.isGenerator = false) (hk : scope.kind = .function)
    (h : ∀ c : Cx, c.Is scope n → c.still = false → ST c body (frzs ps args) fun o _ => o = .ret rv) : FnT f (n + 1) args rv :=
  FnT.introE ho hcd hbind hlen hkinds hnp hcell hco hgen hk fun c C hst _ _ _ _ hid z s H E _ => h c C hst hid z s H E
end
section
open PySem PySem.W PySem.Spec PySem.Calls PyProof.Rows
/-- the list that a call may change -/
noncomputable def LstIn (P : Addr → Obj → Prop) (own : List (Addr × Obj)) (lo : Option (Addr × List V)) : Prop := ∀ b xs, lo = some (b, xs) → ∃ vs n, (b, lobj vs n) ∈ own ∧ VRs P xs vs
noncomputable abbrev selL (lo : Option (Addr × List V)) (p : Addr × Obj) : Bool := isTab p || lo.any fun q => q.1 == p.1
/-- what an inner def gives back -/
inductive FCP (c : Cx) (hid z : List (Addr × Obj)) (m : Pin) (s : Shared) (rv : V) (lo' : Option (Addr × List V)) (v : Value) (s' : Shared) : Prop
  | mk (z' tb' : List (Addr × Obj)) (h1 : Sub z z') (h2 : Fr m.g c.L s'.heap m.m) (h3 : News m.g c.L s'.heap (tb' ++ (z' ++ hid))) (h4 : Sep tb' (z' ++ hid)) (h5 : Sep z' hid) (h6 : Tb c.keep z' tb') (h0 : LstIn (PP c.base z') tb' lo') (h7 : VR (PP c.base z') rv v) (h8 : Same s s')
noncomputable def FnC (kp : List (Addr × Obj)) (B : Heap) (f : Addr) (n : Nat) (args : List V) (rv : V) (lo lo' : Option (Addr × List V)) : Prop :=
  ∀ (c : Cx), c.Ok n → c.base = B → ∀ hid z tb s (m : Pin) vs, GOk c m.g → Fr m.g c.L s.heap m.m → News m.g c.L s.heap (tb ++ (z ++ hid)) → Sep tb (z ++ hid) → Sep z hid → Tb c.keep z tb → (∀ p ∈ kp, p ∈ z) → LstIn (PP c.base z) tb lo → VRs (PP c.base z) args vs → ∀ E,
    wpAny c.M c.A (call (.ref f) vs) (FCP c hid z m s rv lo') E s
theorem sget_app {σ τ : Sto} {x : Str} : sget (σ ++ τ) x = (sget σ x).or (sget τ x) := by
  unfold sget
  rw [List.lookup_append]
/-- such a contract is shown by the body -/
theorem FnC.intro {kp : List (Addr × Obj)} {B : Heap} {f : Addr} {n : Nat} {args : List V} {rv : V} {lo lo' : Option (Addr × List V)} {name qual : Str} {params : Arguments} {body : List Stmt} {scope : Scope} {cl : List (Str × Addr)} {doc pm ctv : Value} {c' : Addr} {oc : Obj} {cvs : Array Value} {ct : Tok} {ps : List Str} {τ : Sto}
    (ho : (f, fnMade name qual params body scope cl doc pm c' ctv) ∈ kp) (hoc : (c', oc) ∈ kp) (hocd : oc.data = .fields cvs) (hocq : cvs[1]? = some (.str qual ct))
    (hbind : ∀ vs : List Value, vs.length = ps.length → bindArgs (fnX name qual params body scope cl .none .none doc pm none (.ref c') ctv) ⟨vs, []⟩ = pure (ps.zip vs))
    (hlen : args.length = ps.length) (hkinds : (ps.all fun y => scope.names.lookup y == some .local) = true) (hnp : ps.Nodup)
    (hcell : ∀ x ∈ scope.names, x.2 ≠ .cell) (hco : scope.isCoroutine = false) (hgen : scope.isGenerator = false) (hk : scope.kind = .function)
    (hcl : ∀ x cd, cl.lookup x = some cd → ∃ o v₀, (cd, o) ∈ kp ∧ o.data = .cell v₀) (hinj : ∀ x y cd, cl.lookup x = some cd → cl.lookup y = some cd → x = y)
    (hτ : ∀ z, (∀ p ∈ kp, p ∈ z) → ∀ x l, sget τ x = some l → ∃ cd o v, scope.names.lookup x = some .free ∧ cl.lookup x = some cd ∧ (cd, o) ∈ kp ∧ o.data = .cell (some v) ∧ (match l with | .frz V => VR (PP B z) V v | .raw w => v = w | .own b xs => v = .ref b ∧ lo = some (b, xs) | .brw _ _ => False))
    (hone : ∀ x y b xs ys, sget τ x = some (.own b xs) → sget τ y = some (.own b ys) → x = y)
    (h : ∀ c : Cx, c.Is scope n → c.keep = kp → c.base = B → ST c body (frzs ps args ++ τ) fun o σ' => (o = .ret rv ∨ (o = .nxt ∧ rv = .none)) ∧ ∀ b xs, lo' = some (b, xs) → ∃ x, sget σ' x = some (.own b xs)) : FnC kp B f (n + 1) args rv lo lo' := by
  intro c ok hB hid z tb s m vs G F N ST S T hkp hlo hv E
  have hl : vs.length = ps.length := by rw [hv.len, hlen]
  have hoz := N _ (List.mem_append_right _ (List.mem_append_left _ (hkp _ ho)))
  have hcz := N _ (List.mem_append_right _ (List.mem_append_left _ (hkp _ hoc)))
  refine wpAny_call ?_
  refine callX_plain (fo := fnMade name qual params body scope cl doc pm c' ctv) (binds := ps.zip vs) G.below F N (ok.top.keeps G.below.stays).nolimit rfl rfl ok.fn hoz.1 rfl ⟨c', oc, cvs, ct, rfl, hcz.1, hocd, hocq⟩ (by have := ok.room; show c.dp < _; omega) (BindsTo.of_eq (hbind vs hl)) ?_ ?_ hcell hco hgen hk
  · intro y hy
    rw [List.all_eq_true] at hkinds
    have : y.1 ∈ ps := by rw [← zip_fst hl]; exact List.mem_map_of_mem hy
    exact beq_iff_eq.mp (hkinds _ this)
  intro g L' h₁ FG F' N' B' st hlt
  let c1 : Cx := { c with dp := c.dp + 1, un := c.un + 3, cn := qual, cs := scope, a := f, ccd := .ref c', cl := cl, outer := c.env :: c.outer, A₀ := c.A, h₀ := g, L := L', pin := none, still := true, keep := kp }
  have ok' : c1.Ok n := ⟨ok.kin, ok.top, ok.code1, ok.code2, hk, by have := ok.room; show c.dp + 1 + n < _; omega, by have := ok.units; show c.un + 3 + 8 * n + 8 < _; omega⟩
  have G' : GOk c1 g := ⟨KtsTurn.refl, B', fun b hb => by
    have hb' : b ∈ c.L :: c.fs := hb
    rcases List.mem_cons.mp hb' with rfl | hb'
    · obtain ⟨o, es, ep, e, hd, _⟩ := FG.ns
      exact ⟨o, es, ep, e, hd⟩
    · obtain ⟨o, es, n, e, hd⟩ := G.dicts b hb'
      exact ⟨o, es, n, FG.keep _ _ e, hd⟩, fun _ => rfl⟩
  have get : ∀ {x l}, sget (frzs ps args ++ τ) x = some l → (∃ V v, l = .frz V ∧ (x, v) ∈ ps.zip vs ∧ VR (PP c.base z) V v) ∨ sget τ x = some l := fun {x l} hx => by
    rw [sget_app] at hx
    cases e : sget (frzs ps args) x with
    | none => rw [e] at hx; exact .inr (by simpa using hx)
    | some l' =>
      rw [e] at hx
      have e2 : l' = l := by simpa using hx
      subst e2
      exact .inl (frzs_get hv hl e)
  have H' : At c1 hid z c1.env (frzs ps args ++ τ) { s with heap := h₁, toks := s.toks + (ps.zip vs).length } := by
    refine ⟨⟨_, g⟩, tb, F', N', ST, S, ⟨G', hk, rfl, rfl, fun _ e => nomatch e⟩, fun x l hx => ?_, fun x y b xs ys hx hy => ?_, fun _ => ⟨fun x cd hx => ?_, hinj, fun y q us hy => ?_⟩, T.keep hkp⟩
    · rcases get hx with ⟨V, v, rfl, hm, hr⟩ | hx
      · refine ⟨v, ?_, hr⟩
        have hxp : x ∈ ps := by rw [← zip_fst hl]; exact List.mem_map_of_mem hm
        rw [List.all_eq_true] at hkinds
        exact .inl ⟨beq_iff_eq.mp (hkinds x hxp), .inl ⟨rfl, lookup_rev hl hnp hm⟩⟩
      · obtain ⟨cd, o, v, q1, q2, q3, q4, q5⟩ := hτ z hkp x l hx
        have src : Src c1 c1.env ⟨fun y => (ps.zip vs).reverse.lookup y, g⟩ (tb ++ (z ++ hid)) x v := .inr ⟨.inr q1, cd, o, q2, List.mem_append_right _ (List.mem_append_left _ (hkp _ q3)), q4⟩
        cases l with
        | frz W => exact ⟨v, src, by rw [← hB] at q5; exact q5⟩
        | own b xs =>
          obtain ⟨rfl, e⟩ := q5
          exact ⟨src, hlo b xs e⟩
        | brw b xs => exact q5.elim
        | raw w => subst q5; exact src
    · rcases get hx with ⟨_, _, e, _⟩ | hx
      · cases e
      · rcases get hy with ⟨_, _, e, _⟩ | hy
        · cases e
        · exact hone _ _ _ _ _ hx hy
    · obtain ⟨o, v₀, a, b⟩ := hcl x cd hx
      exact ⟨o, v₀, .inr a, b⟩
    · rcases get hy with ⟨_, _, e, _⟩ | hy
      · cases e
      · obtain ⟨_, _, _, _, _, _, _, q⟩ := hτ z hkp y _ hy
        exact q
  refine wpAny_mono (h c1 ⟨rfl, rfl, .inr ⟨rfl, hcell⟩, ok'⟩ rfl hB hid z _ H' _) (fun fl s' hPat => ?_) fun _ _ e => e
  obtain ⟨z', o, σ', hz, H2, hor, sm, hp, hlst⟩ := hPat
  obtain ⟨m', own', F2, N2, S12, S22, k2, V2, _, _, T2⟩ := H2
  have eg : m'.g = g := k2.gok.same rfl
  rw [eg] at F2 N2
  have ofS : ∀ {p}, p ∈ own'.filter (selL lo') → p ∈ own' := fun h => (List.mem_filter.mp h).1
  have hval : ∀ fl' : Flow, OutR (PP c1.base z') o fl' → VR (PP c.base z') rv (match fl' with | .ret v => v | _ => .none) := fun fl' hor' => by
    rcases hp with rfl | ⟨rfl, rfl⟩
    · obtain ⟨v, rfl, hv'⟩ := hor'; exact hv'
    · have : fl' = .next := hor'
      subst this
      unfold VR; rfl
  have T3 : Tb c.keep z' (own'.filter (selL lo')) := by
    obtain ⟨_, ⟨p1, a1, b1⟩, ⟨p2, a2, b2⟩⟩ := T2
    exact ⟨fun p hp => hz p (T.kept p hp), ⟨p1, List.mem_filter.mpr ⟨a1, rfl⟩, b1⟩, ⟨p2, List.mem_filter.mpr ⟨a2, rfl⟩, b2⟩⟩
  refine ⟨L', m'.m, _, F2, N2, fun F3 N3 => ⟨z', own'.filter (selL lo'), hz, F3, fun p hp => N3 p ?_, fun p hp q hq => S12 p (ofS hp) q hq, S22, T3, ?_, hval fl hor, sm⟩⟩
  · rcases List.mem_append.mp hp with hp | hp
    · exact List.mem_append_left _ (ofS hp)
    · exact List.mem_append_right _ hp
  · intro b xs e
    obtain ⟨x, hx⟩ := hlst b xs e
    obtain ⟨_, us, k, a1, a2⟩ := V2 x _ hx
    refine ⟨us, k, List.mem_filter.mpr ⟨a1, ?_⟩, a2⟩
    rw [e]
    show (_ || (b == b)) = true
    rw [beq_self_eq_true, Bool.or_true]
/-- it is called -/
theorem FnC.run {kp : List (Addr × Obj)} {B : Heap} {f : Addr} {n : Nat} {args : List V} {rv : V} {lo lo' : Option (Addr × List V)} {c : Cx} {hid z own : List (Addr × Obj)} {σ σ' : Sto} {s : Shared} {m : Pin} {vs : List Value} {E : Value → Shared → Prop}
    (h : FnC kp B f n args rv lo lo') (ok : c.Ok n) (hB : c.base = B) (X : AtX c hid z c.env σ s m own) (hkp : ∀ p ∈ kp, (p ∈ own ∧ ∃ v, p.2.data = .cell v) ∨ p ∈ z)
    (hσ : (lo = none ∧ lo' = none ∧ σ' = σ) ∨ (∃ x b xs xs', lo = some (b, xs) ∧ lo' = some (b, xs') ∧ sget σ x = some (.own b xs) ∧ σ' = sput σ x (.own b xs')))
    (hv : VRs (PP c.base z) args vs) (hrv : ∀ P P' v, VR P rv v → VR P' rv v) (hxs : ∀ b xs P P' us, lo' = some (b, xs) → VRs P xs us → VRs P' xs us) :
    wpAny c.M c.A (call (.ref f) vs) (fun v s' => ∃ z', Sub z z' ∧ At c hid z' c.env σ' s' ∧ VR (PP c.base z') rv v ∧ Same s s') E s := by
  obtain ⟨F, N, S1, S2, k, V, U, C⟩ := id X
  have same : ∀ {p q}, p ∈ own → q ∈ own → p.1 = q.1 → p = q := fun {p q} hp hq e => by
    have h1 := (N _ (List.mem_append_left _ hp)).1
    have h2 := (N _ (List.mem_append_left _ hq)).1
    rw [e, h2] at h1
    exact Prod.ext e (Option.some.inj h1).symm
  let A := kp.map (·.1)
  have hA : ∀ q ∈ own, q.1 ∈ A → ∃ v, q.2.data = .cell v := fun q hq hqA => by
    obtain ⟨p, hp, e⟩ := List.mem_map.mp hqA
    rcases hkp p hp with ⟨h1, v, h2⟩ | h1
    · rw [← same h1 hq e]; exact ⟨v, h2⟩
    · exact absurd e.symm (S1 q hq p (List.mem_append_left _ h1))
  have hlm : ∀ b xs, lo = some (b, xs) → ∃ us k, (b, lobj us k) ∈ own ∧ VRs (PP c.base z) xs us := fun b xs e => by
    rcases hσ with ⟨e1, _⟩ | ⟨x, b', xs1, xs', e1, e2, hx, _⟩
    · rw [e1] at e; cases e
    · rw [e1] at e; cases e
      obtain ⟨_, us, k, a1, a2⟩ := V x _ hx
      exact ⟨us, k, a1, a2⟩
  let cs := own.filter fun p => A.contains p.1
  let tb := own.filter fun p => selL lo p && !A.contains p.1
  let rest := own.filter fun p => !selL lo p && !A.contains p.1
  have cs_ : ∀ {p}, p ∈ cs ↔ p ∈ own ∧ p.1 ∈ A := fun {p} => by
    show p ∈ own.filter _ ↔ _
    rw [List.mem_filter, List.contains_iff_mem]
  have tb_ : ∀ {p}, p ∈ tb ↔ p ∈ own ∧ selL lo p = true ∧ p.1 ∉ A := fun {p} => by
    show p ∈ own.filter _ ↔ _
    rw [List.mem_filter, Bool.and_eq_true, Bool.not_eq_true', ← Bool.not_eq_true, List.contains_iff_mem]
  have rest_ : ∀ {p}, p ∈ rest ↔ p ∈ own ∧ selL lo p = false ∧ p.1 ∉ A := fun {p} => by
    show p ∈ own.filter _ ↔ _
    rw [List.mem_filter, Bool.and_eq_true, Bool.not_eq_true', Bool.not_eq_true', ← Bool.not_eq_true (b := A.contains _), List.contains_iff_mem]
  have nA : ∀ {p}, p ∈ own → (∀ v, p.2.data ≠ .cell v) → p.1 ∉ A := fun {p} hp hn hpA => by
    obtain ⟨v, e⟩ := hA p hp hpA
    exact hn v e
  have tab : ∀ {P ps}, (P, tabObj ps) ∈ own → isTab (P, tabObj ps) = true → (P, tabObj ps) ∈ tb := fun {P ps} hp ht => tb_.mpr ⟨hp, by show (_ || _) = true; rw [ht]; rfl, nA hp fun v e => nomatch e⟩
  have T1 : Tb c.keep (z ++ cs) tb := by
    obtain ⟨k0, ⟨p1, a1, b1⟩, ⟨p2, a2, b2⟩⟩ := C.2
    refine ⟨fun p hp => List.mem_append_left _ (k0 p hp), ⟨p1, tab a1 rfl, b1.imp id ?_⟩, ⟨p2, tab a2 rfl, b2.imp id ?_⟩⟩ <;>
    · rintro ⟨c', oc, us, t, e, a, b⟩
      exact ⟨c', oc, us, t, e, List.mem_append_left _ a, b⟩
  have of4 : ∀ {q}, q ∈ tb ++ ((z ++ cs) ++ (rest ++ hid)) → q ∈ own ++ (z ++ hid) := fun {q} hq => by
    simp only [List.mem_append, cs_, tb_, rest_] at hq ⊢
    grind
  have sepR : ∀ q ∈ tb, ∀ r ∈ rest, q.1 ≠ r.1 := fun q hq r hr e => by
    have := same (tb_.mp hq).1 (rest_.mp hr).1 e
    rw [this] at hq
    have h1 := (tb_.mp hq).2.1
    rw [(rest_.mp hr).2.1] at h1; cases h1
  refine wpAny_mono (h c ok hB (rest ++ hid) (z ++ cs) tb s m vs k.gok F (fun q hq => N q (of4 hq)) (fun q hq r hr => ?_) (fun q hq r hr => ?_) T1 (fun p hp => ?_) (fun b xs e => ?_) (hv.mono (PP.mono fun p hp => List.mem_append_left _ hp)) E)
    (fun v s' ⟨z', tb', hz, F', N', S1', S2', tb2, hl2, hr, sm⟩ => ?_) fun _ _ e => e
  · rcases List.mem_append.mp hr with hr | hr
    · rcases List.mem_append.mp hr with hr | hr
      · exact S1 q (tb_.mp hq).1 r (List.mem_append_left _ hr)
      · exact fun e => (tb_.mp hq).2.2 (e ▸ (cs_.mp hr).2)
    · rcases List.mem_append.mp hr with hr | hr
      · exact sepR q hq r hr
      · exact S1 q (tb_.mp hq).1 r (List.mem_append_right _ hr)
  · rcases List.mem_append.mp hq with hq | hq
    · rcases List.mem_append.mp hr with hr | hr
      · exact Ne.symm (S1 r (rest_.mp hr).1 q (List.mem_append_left _ hq))
      · exact S2 q hq r hr
    · rcases List.mem_append.mp hr with hr | hr
      · exact fun e => (rest_.mp hr).2.2 (e ▸ (cs_.mp hq).2)
      · exact S1 q (cs_.mp hq).1 r (List.mem_append_right _ hr)
  · rcases hkp p hp with ⟨h1, _⟩ | h1
    · exact List.mem_append_right _ (cs_.mpr ⟨h1, List.mem_map_of_mem hp⟩)
    · exact List.mem_append_left _ h1
  · obtain ⟨us, k, a1, a2⟩ := hlm b xs e
    refine ⟨us, k, tb_.mpr ⟨a1, ?_, nA a1 fun v e => nomatch e⟩, a2.mono (PP.mono fun p hp => List.mem_append_left _ hp)⟩
    rw [e]
    show (_ || (b == b)) = true
    rw [beq_self_eq_true, Bool.or_true]
  let z2 := z'.filter fun p => !(cs.map (·.1)).contains p.1
  have z2_ : ∀ {p}, p ∈ z2 ↔ p ∈ z' ∧ p.1 ∉ cs.map (·.1) := fun {p} => by
    show p ∈ z'.filter _ ↔ _
    rw [List.mem_filter, Bool.not_eq_true', ← Bool.not_eq_true, List.contains_iff_mem]
  have hz2 : Sub z z2 := fun p hp => z2_.mpr ⟨hz p (List.mem_append_left _ hp), fun q => by
    obtain ⟨r, hr, e⟩ := List.mem_map.mp q
    exact S1 r (cs_.mp hr).1 p (List.mem_append_left _ hp) e⟩
  have csz : ∀ {p}, p ∈ cs → p ∈ z' := fun {p} hp => hz p (List.mem_append_right _ hp)
  have of5 : ∀ {q}, q ∈ (tb' ++ (cs ++ rest)) ++ (z2 ++ hid) → q ∈ tb' ++ (z' ++ (rest ++ hid)) := fun {q} hq => by
    have a1 := @csz q
    have a2 := @z2_ q
    simp only [List.mem_append] at hq ⊢
    grind
  have fields : ∀ {a : Addr} {o : Obj} {us : Array Value}, (a, o) ∈ z' → o.data = .fields us → (a, o) ∈ z2 := fun {a o us} ha hd => z2_.mpr ⟨ha, fun q => by
    obtain ⟨r, hr, e⟩ := List.mem_map.mp q
    obtain ⟨v, hv⟩ := hA r (cs_.mp hr).1 (cs_.mp hr).2
    have h1 := (N' r (List.mem_append_right _ (List.mem_append_left _ (csz hr)))).1
    have h2 := (N' (a, o) (List.mem_append_right _ (List.mem_append_left _ ha))).1
    rw [e] at h1
    rw [h2] at h1
    have h3 : o = r.2 := Option.some.inj h1
    rw [h3, hv] at hd; cases hd⟩
  have T2 : Tb c.keep z2 (tb' ++ (cs ++ rest)) := by
    obtain ⟨k0, ⟨p1, a1, b1⟩, ⟨p2, a2, b2⟩⟩ := tb2
    refine ⟨fun p hp => hz2 p (C.2.kept p hp), ⟨p1, List.mem_append_left _ a1, b1.imp id ?_⟩, ⟨p2, List.mem_append_left _ a2, b2.imp id ?_⟩⟩ <;>
    · rintro ⟨c', oc, us, t, e, a, b, d⟩
      exact ⟨c', oc, us, t, e, fields a b, b, d⟩
  have keepO : ∀ {p}, p ∈ own → isTab p = false → (∀ b xs, lo = some (b, xs) → p.1 ≠ b) → p ∈ cs ++ rest := fun {p} hp h1 h2 => by
    by_cases e : p.1 ∈ A
    · exact List.mem_append_left _ (cs_.mpr ⟨hp, e⟩)
    · refine List.mem_append_right _ (rest_.mpr ⟨hp, ?_, e⟩)
      show (_ || _) = false
      rw [h1, Bool.false_or]
      cases q : lo with
      | none => rfl
      | some r =>
        obtain ⟨b, xs⟩ := r
        exact beq_eq_false_iff_ne.mpr (Ne.symm (h2 b xs q))
  have keepC : ∀ {p}, p ∈ own → (∃ v, p.2.data = .cell v) → p ∈ cs ++ rest := fun {p} hp ⟨v, hd⟩ => keepO hp (C.2.nt N hp (.cell hd)) fun b xs e q => by
    obtain ⟨us, k, a1, _⟩ := hlm b xs e
    have := same hp a1 q
    rw [this] at hd; cases hd
  have src : ∀ {y u}, Src c c.env m (own ++ (z ++ hid)) y u → Src c c.env m ((tb' ++ (cs ++ rest)) ++ (z2 ++ hid)) y u := fun {y u} hs => by
    rcases hs.mine X with ⟨k', hs | ⟨oC, m₂, a, b, d⟩⟩ | ⟨k', cd, o, a, b, d⟩
    · exact .inl ⟨k', .inl hs⟩
    · rcases List.mem_append.mp a with a | a
      · exact absurd rfl (N _ (List.mem_append_left _ a)).2.1
      · exact absurd rfl (N _ (List.mem_append_right _ (List.mem_append_left _ (C.2.kept _ a)))).2.1
    · refine .inr ⟨k', cd, o, a, ?_, d⟩
      rcases List.mem_append.mp b with b | b
      · exact List.mem_append_left _ (List.mem_append_right _ (keepC b ⟨_, d⟩))
      · exact List.mem_append_right _ (List.mem_append_left _ (hz2 _ (C.2.kept _ b)))
  have noB := (C.1 rfl).2.2
  have var : ∀ {y l}, sget σ y = some l → (∀ b xs, lo = some (b, xs) → ∀ ys, l ≠ .own b ys) → VarOk c c.env m (tb' ++ (cs ++ rest)) z2 hid y l := fun {y l} hy hn => by
    have := V y l hy
    cases l with
    | frz W => obtain ⟨u, a, b⟩ := this; exact ⟨u, src a, VR.mono (PP.mono hz2) b⟩
    | own q us =>
      obtain ⟨a, us', n', b', d⟩ := this
      refine ⟨src a, us', n', List.mem_append_right _ (keepO b' (C.2.nt N b' .lobj) fun b xs e q' => hn b xs e us ?_), VRs.mono (PP.mono hz2) d⟩
      rw [show q = b from q']
    | brw q us => exact absurd hy (noB y q us)
    | raw w => exact src this
  refine ⟨z2, hz2, ⟨m, tb' ++ (cs ++ rest), F', fun q hq => N' q (of5 hq), fun q hq r hr => ?_, fun q hq r hr => S2' q (z2_.mp hq).1 r (List.mem_append_right _ hr), k, fun y l hy => ?_, fun y y' d us ys hy hy' => ?_, fun e => ⟨fun x cd hx => ?_, (C.1 e).2.1, ?_⟩, T2⟩, hrv _ _ _ hr, sm⟩
  · rcases List.mem_append.mp hq with hq | hq
    · rcases List.mem_append.mp hr with hr | hr
      · exact S1' q hq r (List.mem_append_left _ (z2_.mp hr).1)
      · exact S1' q hq r (List.mem_append_right _ (List.mem_append_right _ hr))
    · rcases List.mem_append.mp hq with hq | hq
      · rcases List.mem_append.mp hr with hr | hr
        · exact fun e => (z2_.mp hr).2 (e ▸ List.mem_map_of_mem hq)
        · exact S1 q (cs_.mp hq).1 r (List.mem_append_right _ hr)
      · rcases List.mem_append.mp hr with hr | hr
        · exact Ne.symm (S2' r (z2_.mp hr).1 q (List.mem_append_left _ hq))
        · exact S1 q (rest_.mp hq).1 r (List.mem_append_right _ hr)
  · rcases hσ with ⟨e1, e2, e3⟩ | ⟨x, b, xs, xs', e1, e2, hx, e3⟩
    · rw [e3] at hy
      exact var hy fun b xs e => by rw [e1] at e; cases e
    · rw [e3] at hy
      by_cases h1 : y = x
      · subst h1
        rw [sget_sput_same] at hy
        cases hy
        obtain ⟨us, k2, a1, a2⟩ := hl2 b xs' e2
        exact ⟨src (V y _ hx).1, us, k2, List.mem_append_left _ a1, hxs b xs' _ _ us e2 a2⟩
      · rw [sget_sput_ne h1] at hy
        refine var hy fun b' xs2 e ys q => ?_
        rw [e1] at e; cases e
        subst q
        exact h1 (U _ _ _ _ _ hy hx)
  · rcases hσ with ⟨e1, e2, e3⟩ | ⟨x, b, xs, xs', e1, e2, hx, e3⟩
    · rw [e3] at hy hy'
      exact U _ _ _ _ _ hy hy'
    · rw [e3] at hy hy'
      have : ∀ {y : Str} {d : Addr} {us : List Mine.V}, sget (sput σ x (.own b xs')) y = some (.own d us) → ∃ us', sget σ y = some (.own d us') := fun {y d us} h => by
        by_cases h1 : y = x
        · subst h1; rw [sget_sput_same] at h; cases h; exact ⟨_, hx⟩
        · rw [sget_sput_ne h1] at h; exact ⟨_, h⟩
      obtain ⟨_, h1⟩ := this hy
      obtain ⟨_, h2⟩ := this hy'
      exact U _ _ _ _ _ h1 h2
  · obtain ⟨o, v₀, a, d⟩ := (C.1 e).1 x cd hx
    exact ⟨o, v₀, a.imp (fun a => List.mem_append_right _ (keepC a ⟨_, d⟩)) id, d⟩
  · rcases hσ with ⟨e1, e2, e3⟩ | ⟨x, b, xs, xs', e1, e2, hx, e3⟩
    · rw [e3]; exact noB
    · rw [e3]; exact noBrw_put noB fun _ _ e => nomatch e
section
variable {c : Cx} {hid z : List (Addr × Obj)} {σ : Sto} {s : Shared} {x : Str} {v : Value} {E : Value → Shared → Prop}
theorem At.storeRaw (H : At c hid z c.env σ s) (hk : Storable c x) :
    wpAny c.M c.A (storeName c.env x v) (fun _ s' => At c hid z c.env (sput σ x (.raw v)) s' ∧ Same s s') E s := by
  obtain ⟨m, own, X⟩ := H
  refine wpAny_mono (store_core X hk) (fun _ s' h => ?_) fun _ _ e => e
  obtain ⟨⟨m', own', hg, F, N, S1, hs, hx, hl, hl', C⟩, sm⟩ := h
  obtain ⟨_, _, _, S2, k, V, U, C0⟩ := X
  refine ⟨⟨m', own', F, N, S1, S2, k.any hk.1 hg, fun y l hy => ?_, fun y y' b xs ys hy hy' => ?_, fun _ => ⟨C.1.1, C.1.2, noBrw_put (C0.1 rfl).2.2 fun _ _ e => nomatch e⟩, C.2⟩, sm⟩
  · by_cases e : y = x
    · subst e
      rw [sget_sput_same] at hy; cases hy
      exact hx
    · rw [sget_sput_ne e] at hy
      have := V y l hy
      cases l with
      | frz W => obtain ⟨u, a, b⟩ := this; exact ⟨u, hs _ _ e a, b⟩
      | own q xs => obtain ⟨a, vs, n, b, d⟩ := this; exact ⟨hs _ _ e a, vs, n, hl _ _ _ b, d⟩
      | brw q xs => obtain ⟨a, vs, n, b', d⟩ := this; exact ⟨hs _ _ e a, vs, n, b', d⟩
      | raw w => exact hs _ _ e this
  · by_cases h1 : y = x
    · subst h1; rw [sget_sput_same] at hy; cases hy
    · by_cases h2 : y' = x
      · subst h2; rw [sget_sput_same] at hy'; cases hy'
      · rw [sget_sput_ne h1] at hy; rw [sget_sput_ne h2] at hy'
        exact U _ _ _ _ _ hy hy'
end
end
section
open PySem PySem.W PySem.Spec PySem.Calls PyProof.Rows
noncomputable abbrev innA {l : List Stmt} {i : Nat} {nm : Str} {a : Arguments} {b : List Stmt} {ds : List Expr} {ret : Option Expr} {tps : List TypeParam} {sc : Scope} {tsc : Option Scope} {bd : Str} {pos : Pos} (_ : l[i]? = some (.FunctionDef nm a b ds ret tps sc tsc bd pos)) : Arguments := a
noncomputable abbrev innB {l : List Stmt} {i : Nat} {nm : Str} {a : Arguments} {b : List Stmt} {ds : List Expr} {ret : Option Expr} {tps : List TypeParam} {sc : Scope} {tsc : Option Scope} {bd : Str} {pos : Pos} (_ : l[i]? = some (.FunctionDef nm a b ds ret tps sc tsc bd pos)) : List Stmt := b
noncomputable abbrev innS {l : List Stmt} {i : Nat} {nm : Str} {a : Arguments} {b : List Stmt} {ds : List Expr} {ret : Option Expr} {tps : List TypeParam} {sc : Scope} {tsc : Option Scope} {bd : Str} {pos : Pos} (_ : l[i]? = some (.FunctionDef nm a b ds ret tps sc tsc bd pos)) : Scope := sc
noncomputable abbrev ia69 : Arguments := innA (l := b69) (i := 1) rfl
noncomputable abbrev ib69 : List Stmt := innB (l := b69) (i := 1) rfl
noncomputable abbrev is69 : Scope := innS (l := b69) (i := 1) rfl
noncomputable abbrev ia76 : Arguments := innA (l := b76) (i := 0) rfl
noncomputable abbrev ib76 : List Stmt := innB (l := b76) (i := 0) rfl
noncomputable abbrev is76 : Scope := innS (l := b76) (i := 0) rfl
section
variable {c : Cx} {env : Env} {z z' hid own : List (Addr × Obj)} {σ σ' : Sto} {s s' s₁ : Shared} {x : Str} {v : Value} {E : Value → Shared → Prop} {e l r : Expr} {es : List Expr} {pos p p' spos : Pos} {Post : V → Sto → Prop} {f : Addr} {n : Nat} {Q : Out → Sto → Prop} {m : Pin}
theorem S1.expr (h : EV c c.env e σ fun _ σ₁ => Q .nxt σ₁) (hs : swapsWith e none spos.line c.env = pure false := by rfl) : S1 c (.Expr e spos) σ Q := fun hid z s H E => by
  refine wpAny_Expr_any (h.go H fun z₁ V σ₁ v s₁ hz H₁ hv sm k => ?_) H.fn_env hs
  exact ⟨z₁, .nxt, σ₁, hz, H₁, rfl, sm, k⟩
theorem S1.retN (h : Q (.ret .none) σ) : S1 c (.Return none pos) σ Q := fun hid z s H E => by
  show wpAny _ _ (do standAt pos; return Flow.ret .none) _ _ s
  exact wpAny_bind (wpAny_standAt (wpAny_pure ⟨z, .ret .none, σ, fun _ h => h, H, ⟨.none, rfl, by unfold VR; rfl⟩, ⟨rfl, rfl, rfl⟩, h⟩))
theorem Src.loadR {m : Pin} {all : List (Addr × Obj)} {Q : Value → Shared → Prop} (S : Src c env m all x v) (hk : env.scope.kind = .function) (F : Fr m.g c.L s.heap m.m) (N : News m.g c.L s.heap all)
    (h : Q v s) (h1 : (x == ("__debug__" : Str)) = false := by decide) (h2 : (x == ("__classdict__" : Str)) = false := by decide) : wpAny c.M c.A (eval (.Name x pos) env) Q E s := S.load hk F N h h1 h2
/-- an inner def is called by its name -/
theorem EV.callC (ok : c.Ok n) (hx : sget σ x = some (.raw (.ref f))) (hf : ∃ fo fd, (f, fo) ∈ c.keep ∧ fo.data = .func fd)
    (h : EVs c c.env (e :: es) σ fun W σ₁ => ∀ hid z s m own, AtX c hid z c.env σ₁ s m own → ∃ kp rv lo lo' σ', FnC kp c.base f n W rv lo lo' ∧ (∀ p ∈ kp, (p ∈ own ∧ ∃ v, p.2.data = .cell v) ∨ p ∈ z) ∧
      ((lo = none ∧ lo' = none ∧ σ' = σ₁) ∨ (∃ x b xs xs', lo = some (b, xs) ∧ lo' = some (b, xs') ∧ sget σ₁ x = some (.own b xs) ∧ σ' = sput σ₁ x (.own b xs'))) ∧
      (∀ P P' v, VR P rv v → VR P' rv v) ∧ (∀ b xs P P' us, lo' = some (b, xs) → VRs P xs us → VRs P' xs us) ∧ Post rv σ')
    (h1 : (x == ("__debug__" : Str)) = false := by decide) (h2 : (x == ("__classdict__" : Str)) = false := by decide)
    (he : starEach (e :: es) c.env = (false, eval e c.env) :: starEach es c.env := by rfl) (hplain : (backTo pos (starEach es c.env)).any (·.1) = false := by rfl) :
    EV c c.env (.Call (.Name x p) (e :: es) [] pos) σ Post := fun hid z s H E => by
  show wpAny _ _ (do callWith pos (← eval (.Name x p) c.env) [] (backTo pos (starEach (e :: es) c.env)) (backToKw pos (keywordEach [] c.env))) _ _ s
  obtain ⟨m, own, X⟩ := id H
  obtain ⟨fo, fd, hfk, hfd⟩ := hf
  obtain ⟨F, N, S1, S2, k, V, U, C⟩ := id X
  refine wpAny_bind (Src.loadR (V x _ hx) k.kind F N ?_ h1 h2)
  have fat : ∀ {hid z : List (Addr × Obj)} {σ : Sto} {s : Shared}, At c hid z c.env σ s → FnAt f s.heap := fun {hid z σ s} H => by
    obtain ⟨m, own, F, N, S1, S2, k, V, U, C⟩ := H
    have h1 := (N _ (List.mem_append_right _ (List.mem_append_left _ (C.2.kept _ hfk)))).1
    obtain ⟨a1, a2, a3, a4⟩ := fo
    simp only at hfd; subst hfd
    exact ⟨a1, a2, fd, a4, h1⟩
  refine callWith_F (fat H) ?_ he hplain
  refine h.go H fun z₁ W σ₁ vs s₁ hz₁ H₁ hv sm₁ h₁ => ?_
  refine ⟨fat H₁, ?_⟩
  obtain ⟨m₁, own₁, X₁⟩ := id H₁
  obtain ⟨kp, rv, lo, lo', σ', hF, hkp, hσ, hrv, hxs, hP⟩ := h₁ hid z₁ s₁ m₁ own₁ X₁
  exact wpAny_mono (hF.run ok rfl X₁ hkp hσ hv hrv hxs) (fun v s' hPat => by obtain ⟨z', a, b, d, e⟩ := hPat; exact ⟨z', rv, σ', fun p hp => a p (hz₁ p hp), b, d, sm₁.trans e, hP⟩) fun _ _ e => e
/-- the table of an inner def's code -/
structure NestTab (P cc ln : Nat) (qual : Str) : Prop where
  get : ∀ kp z own, Tb kp z own → TabIs z own P ln qual
  put : ∀ kp z own own', Tb kp z own → (∀ q ps, q ≠ P → (q, tabObj ps) ∈ own → (q, tabObj ps) ∈ own') → TabIs z own' P ln qual → Tb kp z own'
  code : ∀ c n, Cx.Ok c n → CodeHd c.base cc P
theorem nest1 : NestTab (nat_lit 64) (nat_lit 68) 39 (.ofString "_int2digits.<locals>.inner") :=
  ⟨fun _ _ _ T => T.t1, fun kp z own own' T h t => ⟨T.kept, t, by
    obtain ⟨ps, a, b⟩ := T.t2
    exact ⟨ps, h _ _ (by decide) a, b⟩⟩, fun c n ok => ok.code1⟩
theorem nest2 : NestTab (nat_lit 71) (nat_lit 75) 54 (.ofString "_digits2int.<locals>.inner") :=
  ⟨fun _ _ _ T => T.t2, fun kp z own own' T h t => ⟨T.kept, by
    obtain ⟨ps, a, b⟩ := T.t1
    exact ⟨ps, h _ _ (by decide) a, b⟩, t⟩, fun c n ok => ok.code2⟩
/-- an inner def is made -/
theorem nest_wp {P cc ln : Nat} {name qual : Str} {params : Arguments} {body : List Stmt} {scope : Scope} {clos : List (Str × Addr)} {KK : Flow → Shared → Prop} (NT_ : NestTab P cc ln qual) (ok : c.Ok n) (hcd : c.ccd = .ref cc) (H : At c hid z c.env σ s) (hk : Storable c name)
    (hcl : closureFor scope c.env = pure clos) (hq : qualnameIn c.env name name = qual) (hl : pos.line = ln) (hcol : pos.col = 4) (hd0 : params.defaults = []) (hk0 : params.kw_defaults = []) (ha : annTrees params none c.env = [])
    (hK : ∀ f ctv doc c' oc vs t z' s', Sub z z' → (f, fnMade name qual params body scope clos doc ((c.mg "__name__").getD .none) c' ctv) ∈ z' → (c', oc) ∈ z' → oc.data = .fields vs → vs[1]? = some (.str qual t) →
      At c hid z' c.env (sput σ name (.raw (.ref f))) s' → Same s s' → KK .next s') :
    wpAny c.M c.A (exec (.FunctionDef name params body [] none [] scope none name pos) c.env) KK E s := by
  refine nestDef_K hd0 hk0 ha ?_
  rw [hq]
  obtain ⟨m, own, X⟩ := H
  obtain ⟨F, N, S1, S2, k, V, U, C⟩ := id X
  have T := ok.top.keeps k.stays
  have CH := (NT_.code c n ok).keeps k.stays
  obtain ⟨ps, hps, hcase⟩ := NT_.get _ _ _ C.2
  have fin : ∀ f ctv doc c' oc vs t (own' z' : List (Addr × Obj)) h' tk, Fr m.g c.L h' m.m → News m.g c.L h' (own' ++ (z' ++ hid)) → Sub z z' → (f, fnMade name qual params body scope clos doc ((c.mg "__name__").getD .none) c' ctv) ∈ z' → (c', oc) ∈ z' → oc.data = .fields vs → vs[1]? = some (.str qual t) →
      SubN own own' → Sep own' (z' ++ hid) → Sep z' hid → Tb c.keep z' own' → wpAny c.M c.A (storeName c.env name (.ref f)) (fun _ s'' => KK .next s'') E { s with heap := h', toks := tk } := by
    intro f ctv doc c' oc vs t own' z' h' tk F' N' hz hf hc' hd hv ho S1' S2' tb
    have H' : At c hid z' c.env σ { s with heap := h', toks := tk } := ⟨m, own', F', N', S1', S2', k, fun x l hx => (V x l hx).monoN ho hz fun _ h => h, U, fun e => ⟨fun x cd hx => by
      obtain ⟨o, v₀, a, d⟩ := (C.1 e).1 x cd hx
      exact ⟨o, v₀, a.imp (fun a => ho _ a (.cell d)) id, d⟩, (C.1 e).2⟩, tb⟩
    exact wpAny_mono (H'.storeRaw hk) (fun _ s₃ hPat => by obtain ⟨H₃, sm₃⟩ := hPat; exact hK f ctv doc c' oc vs t z' s₃ hz hf hc' hd hv H₃ sm₃) fun _ _ e => e
  rcases hcase with rfl | ⟨c₀, oc, vs, t, rfl, hoc, hd, hv⟩
  · let rest := own.filter fun p => p.1 != P
    have rest_ : ∀ {p}, p ∈ rest ↔ p ∈ own ∧ p.1 ≠ P := fun {p} => by
      show p ∈ own.filter _ ↔ _
      rw [List.mem_filter, bne_iff_ne]
    have offP : ∀ p ∈ rest ++ (z ++ hid), p.1 ≠ P := fun p hp => by
      rcases List.mem_append.mp hp with hp | hp
      · exact (rest_.mp hp).2
      · exact Ne.symm (S1 _ hps p hp)
    have N1 : News m.g c.L s.heap ((P, tabObj #[]) :: (rest ++ (z ++ hid))) := fun p hp => N p (by
      rcases List.mem_cons.mp hp with rfl | hp
      · exact List.mem_append_left _ hps
      · rcases List.mem_append.mp hp with hp | hp
        · exact List.mem_append_left _ (rest_.mp hp).1
        · exact List.mem_append_right _ hp)
    refine nest_K F N1 T CH hcd (.head offP) trivial rfl hcl fun f c' oc vs t ctv doc h' tk F' N' hd hv hlt hcf => ?_
    have e1 : (#[] : Array Value) ++ #[rawInt ((pos.line : Nat) : Int), rawInt ((pos.col : Nat) : Int), .ref c'] = #[rawInt ((ln : Nat) : Int), rawInt ((4 : Nat) : Int), .ref c'] := by rw [hl, hcol]; rfl
    rw [e1] at N'
    have hlt' : ∀ q ∈ own ++ (z ++ hid), q.1 < c' := fun q hq => by
      by_cases e : q.1 = P
      · rw [e]; exact hlt (P, tabObj #[]) (.head _)
      · rcases List.mem_append.mp hq with hq | hq
        · exact hlt q (.tail _ (List.mem_append_left _ (rest_.mpr ⟨hq, e⟩)))
        · exact hlt q (.tail _ (List.mem_append_right _ hq))
    have new : ∀ {p : Addr × Obj}, p.1 = f ∨ p.1 = c' → ∀ q ∈ own ++ (z ++ hid), q.1 ≠ p.1 := fun {p} h q hq => by
      have := hlt' q hq
      rcases h with h | h
      · rw [h]; exact Nat.ne_of_lt (Nat.lt_trans this hcf)
      · rw [h]; exact Nat.ne_of_lt this
    refine fin f ctv doc c' oc vs t ((P, tabObj #[rawInt ((ln : Nat) : Int), rawInt ((4 : Nat) : Int), .ref c']) :: rest) ((f, _) :: (c', oc) :: z) h' tk F' (fun q hq => N' q ?_) (fun q hq => .tail _ (.tail _ hq)) (.head _) (.tail _ (.head _)) hd hv (fun q hq nt => ?_) (fun q hq r hr => ?_) (fun q hq r hr => ?_) ?_
    · simp only [List.mem_append, List.mem_cons, List.cons_append] at hq ⊢; grind
    · by_cases e : q.1 = P
      · have h1 := (N _ (List.mem_append_left _ hq)).1
        rw [e, (N _ (List.mem_append_left _ hps)).1] at h1
        exact absurd (Option.some.inj h1).symm (nt #[])
      · exact .tail _ (rest_.mpr ⟨hq, e⟩)
    · have hq' : ∃ q' ∈ own, q'.1 = q.1 := by
        rcases List.mem_cons.mp hq with rfl | hq
        · exact ⟨_, hps, rfl⟩
        · exact ⟨q, (rest_.mp hq).1, rfl⟩
      obtain ⟨q', hq', e⟩ := hq'
      rw [← e]
      simp only [List.mem_append, List.mem_cons, List.cons_append] at hr
      rcases hr with rfl | rfl | hr | hr
      · exact new (.inl rfl) q' (List.mem_append_left _ hq')
      · exact new (.inr rfl) q' (List.mem_append_left _ hq')
      · exact S1 q' hq' r (List.mem_append_left _ hr)
      · exact S1 q' hq' r (List.mem_append_right _ hr)
    · have hr' : r ∈ own ++ (z ++ hid) := List.mem_append_right _ (List.mem_append_right _ hr)
      simp only [List.mem_cons] at hq
      rcases hq with rfl | rfl | hq
      · exact Ne.symm (new (.inl rfl) r hr')
      · exact Ne.symm (new (.inr rfl) r hr')
      · exact S2 q hq r hr
    · refine NT_.put _ _ _ _ (C.2.mono (z' := (f, _) :: (c', oc) :: z) (fun q hq => .tail _ (.tail _ hq)) fun _ _ h => h) (fun q ps hq hm => .tail _ (rest_.mpr ⟨hm, hq⟩)) ⟨_, .head _, .inr ⟨c', oc, vs, t, rfl, .tail _ (.head _), hd, hv⟩⟩
  · have hm : (P, tabObj #[rawInt ((ln : Nat) : Int), rawInt ((4 : Nat) : Int), .ref c₀]) ∈ own ++ (z ++ hid) := List.mem_append_left _ hps
    refine nestHit_K (c' := c₀) F N T CH hcd hm trivial ?_ hcl fun f ctv doc h' tk F' N' hlt => ?_
    · show codeAmong pos [.int ((ln : Nat) : Int) _, .int ((4 : Nat) : Int) _, .ref c₀] = _
      unfold codeAmong
      rw [hl, hcol]
      simp
    · refine fin f ctv doc c₀ oc vs t own ((f, _) :: z) h' tk F' (fun q hq => N' q ?_) (fun q hq => .tail _ hq) (.head _) (.tail _ hoc) hd hv (fun q hq nt => hq) (fun q hq r hr => ?_) (fun q hq r hr => ?_) (C.2.mono (fun q hq => .tail _ hq) fun _ _ h => h)
      · simp only [List.mem_append, List.mem_cons, List.cons_append] at hq ⊢; grind
      · rcases List.mem_append.mp hr with hr | hr
        · rcases List.mem_cons.mp hr with rfl | hr
          · exact Nat.ne_of_lt (hlt q (List.mem_append_left _ hq))
          · exact S1 q hq r (List.mem_append_left _ hr)
        · exact S1 q hq r (List.mem_append_right _ hr)
      · rcases List.mem_cons.mp hq with rfl | hq
        · exact Nat.ne_of_gt (hlt r (List.mem_append_right _ (List.mem_append_right _ hr)))
        · exact S2 q hq r hr
/-- what lies for good may be told -/
theorem At.keepIn {kp : List (Addr × Obj)} (H : At c hid z c.env σ s) (h : c.keep = []) (hk : ∀ p ∈ kp, p ∈ z) : At { c with keep := kp } hid z c.env σ s := by
  obtain ⟨m, own, F, N, S1, S2, k, V, U, C⟩ := H
  refine ⟨m, own, F, N, S1, S2, ⟨⟨k.gok.turn, k.gok.below, k.gok.dicts, k.gok.same⟩, k.kind, k.globals, k.builtins, k.pin⟩, V, U, fun e => ⟨fun x cd hx => ?_, (C.1 e).2⟩, C.2.keep hk⟩
  obtain ⟨o, v₀, a, d⟩ := (C.1 e).1 x cd hx
  rw [h] at a
  exact ⟨o, v₀, .inl (a.elim id fun a => nomatch a), d⟩
end
end
section
/-! rings broken in any order -/
structure Cyc (tg : List (List Nat)) (u C : List Nat) : Prop where
  ne : C ≠ []
  nd : C.Nodup
  lt : ∀ x ∈ C, x < 5
  cl : ∀ x ∈ C, nextSite tg u x ∈ C
  tr : ∀ x ∈ C, ∀ D : Nat → Prop, D x → (∀ y ∈ C, D y → D (nextSite tg u y)) → ∀ y ∈ C, D y
theorem nextSite_congr {tg : List (List Nat)} {u v : List Nat} {s : Nat} (h : u.getD s 0 = v.getD s 0) : nextSite tg u s = nextSite tg v s := by
  unfold nextSite; rw [h]
theorem Cyc.used {tg : List (List Nat)} {u C : List Nat} (h : Cyc tg u C) : ∀ x ∈ C, u.getD x 0 < lenT tg x := fun x hx => by
  have h1 := h.lt _ (h.cl x hx)
  unfold nextSite at h1
  split at h1
  · assumption
  · lia
theorem Cyc.congr {tg : List (List Nat)} {u v C : List Nat} (h : Cyc tg u C) (e : ∀ x ∈ C, u.getD x 0 = v.getD x 0) : Cyc tg v C := by
  have en : ∀ x ∈ C, nextSite tg u x = nextSite tg v x := fun x hx => nextSite_congr (e x hx)
  refine ⟨h.ne, h.nd, h.lt, fun x hx => en x hx ▸ h.cl x hx, fun x hx D hD hcl => h.tr x hx D hD fun y hy hDy => ?_⟩
  rw [en y hy]; exact hcl y hy hDy
theorem Cyc.sub {tg : List (List Nat)} {u C D : List Nat} (h : Cyc tg u C) (k : Cyc tg u D) {x : Nat} (hx : x ∈ C) (hy : x ∈ D) : ∀ y ∈ C, y ∈ D :=
  h.tr x hx (· ∈ D) hy fun y _ hy => k.cl y hy
theorem Cyc.perm {tg : List (List Nat)} {u C D : List Nat} (h : Cyc tg u C) (k : Cyc tg u D) {x : Nat} (hx : x ∈ C) (hy : x ∈ D) : C.Perm D :=
  (List.perm_ext_iff_of_nodup h.nd k.nd).mpr fun y => ⟨h.sub k hx hy y, k.sub h hy hx y⟩
theorem ext_getD {u v : List Nat} (hl : u.length = v.length) (h : ∀ x, x < u.length → u.getD x 0 = v.getD x 0) : u = v := by
  refine List.ext_getElem hl fun i h1 h2 => ?_
  have := h i h1
  simpa [List.getD_eq_getElem?_getD, h1, h2] using this
theorem bump_cyc {tg : List (List Nat)} {u C : List Nat} (hu : u.length = 5) (h : Cyc tg u C) (x : Nat) : (bump u C).getD x 0 = u.getD x 0 + if x ∈ C then 1 else 0 :=
  bump_get C u x h.nd fun y hy => by rw [hu]; exact h.lt y hy
theorem bump_perm {tg : List (List Nat)} {u C D : List Nat} (hu : u.length = 5) (h : Cyc tg u C) (k : Cyc tg u D) (p : C.Perm D) : bump u C = bump u D :=
  ext_getD (by rw [bump_len, bump_len]) fun x _ => by rw [bump_cyc hu h, bump_cyc hu k]; simp [p.mem_iff]
theorem ringRow_perm {u v C D : List Nat} (p : C.Perm D) (e : ∀ x ∈ C, u.getD x 0 = v.getD x 0) : ringRow u C = ringRow v D := by
  unfold ringRow
  have h : C.map (fun one => 4 * one + u.getD one 0 + 1) = C.map (fun one => 4 * one + v.getD one 0 + 1) := List.map_congr_left fun x hx => by rw [e x hx]
  rw [h]
  exact msort_eq (p.map _)
noncomputable def NoCyc (tg : List (List Nat)) (u : List Nat) : Prop := ∀ C, ¬ Cyc tg u C
inductive Run (tg : List (List Nat)) : List Nat → List (List Nat) → List Nat → Prop where
  | done {u : List Nat} (h : NoCyc tg u) : Run tg u [] u
  | pop {u C : List Nat} {rs : List (List Nat)} {e : List Nat} (h : Cyc tg u C) (r : Run tg (bump u C) rs e) : Run tg u (ringRow u C :: rs) e
theorem Run.exch {tg : List (List Nat)} {u : List Nat} {rs : List (List Nat)} {e : List Nat} (r : Run tg u rs e) : u.length = 5 → ∀ C, Cyc tg u C → ∃ rs', Run tg (bump u C) rs' e ∧ rs.Perm (ringRow u C :: rs') := by
  induction r with
  | done h => exact fun _ C hC => absurd hC (h C)
  | @pop u D rs e hD r ih =>
    intro hu C hC
    by_cases hx : ∃ x, x ∈ C ∧ x ∈ D
    · obtain ⟨x, h1, h2⟩ := hx
      have p := hC.perm hD h1 h2
      refine ⟨rs, bump_perm hu hC hD p ▸ r, ?_⟩
      rw [ringRow_perm p fun _ _ => rfl]
    · have off1 : ∀ x ∈ C, x ∉ D := fun x h1 h2 => hx ⟨x, h1, h2⟩
      have off2 : ∀ x ∈ D, x ∉ C := fun x h1 h2 => hx ⟨x, h2, h1⟩
      have e1 : ∀ x ∈ C, u.getD x 0 = (bump u D).getD x 0 := fun x h => by rw [bump_cyc hu hD, if_neg (off1 x h)]; rfl
      have e2 : ∀ x ∈ D, u.getD x 0 = (bump u C).getD x 0 := fun x h => by rw [bump_cyc hu hC, if_neg (off2 x h)]; rfl
      have hC' := hC.congr e1
      have hD' := hD.congr e2
      obtain ⟨rs', r', p⟩ := ih (by rw [bump_len, hu]) C hC'
      have ec : bump (bump u D) C = bump (bump u C) D := ext_getD (by simp only [bump_len]) fun x _ => by
        rw [bump_cyc (by rw [bump_len, hu]) hC', bump_cyc (by rw [bump_len, hu]) hD', bump_cyc hu hC, bump_cyc hu hD]
        lia
      refine ⟨ringRow (bump u C) D :: rs', Run.pop hD' (ec ▸ r'), ?_⟩
      rw [← ringRow_perm (List.Perm.refl D) e2]
      refine (List.Perm.cons _ p).trans ?_
      rw [← ringRow_perm (List.Perm.refl C) e1]
      exact List.Perm.swap ..
theorem Run.same {tg : List (List Nat)} {u : List Nat} {rs : List (List Nat)} {e : List Nat} (r : Run tg u rs e) : u.length = 5 → ∀ {rs' : List (List Nat)} {e' : List Nat}, Run tg u rs' e' → rs.Perm rs' ∧ e = e' := by
  induction r with
  | done h =>
    intro _ rs' e' r'
    cases r' with
    | done _ => exact ⟨List.Perm.refl _, rfl⟩
    | pop hC _ => exact absurd hC (h _)
  | @pop u C rs e hC r ih =>
    intro hu rs' e' r'
    obtain ⟨rs'', r'', p⟩ := r'.exch hu C hC
    obtain ⟨p2, e2⟩ := ih (by rw [bump_len, hu]) r''
    exact ⟨(p2.cons _).trans p.symm, e2⟩
inductive Pops (tg : List (List Nat)) (u₀ : List Nat) : List (List Nat) → List Nat → Prop where
  | nil : Pops tg u₀ [] u₀
  | snoc {rs : List (List Nat)} {u C : List Nat} (p : Pops tg u₀ rs u) (h : Cyc tg u C) : Pops tg u₀ (rs ++ [ringRow u C]) (bump u C)
theorem Pops.run {tg : List (List Nat)} {u₀ : List Nat} {rs : List (List Nat)} {u : List Nat} (p : Pops tg u₀ rs u) : ∀ {rs2 : List (List Nat)} {e : List Nat}, Run tg u rs2 e → Run tg u₀ (rs ++ rs2) e := by
  induction p with
  | nil => exact fun r => r
  | snoc p h ih => intro rs2 e r; rw [List.append_assoc]; exact ih (Run.pop h r)
theorem Pops.end_ {tg : List (List Nat)} {u₀ : List Nat} {rs : List (List Nat)} {u : List Nat} (p : Pops tg u₀ rs u) (h : NoCyc tg u) : Run tg u₀ rs u := by
  have := p.run (.done h); simpa using this
theorem Pops.len {tg : List (List Nat)} {u₀ : List Nat} {rs : List (List Nat)} {u : List Nat} (p : Pops tg u₀ rs u) (hu : u₀.length = 5) : u.length = 5 := by
  induction p with
  | nil => exact hu
  | snoc p h ih => rw [bump_len]; exact ih
theorem Pops.uok {tg : List (List Nat)} {u₀ : List Nat} {rs : List (List Nat)} {u : List Nat} (p : Pops tg u₀ rs u) (hu : UOk tg u₀) : UOk tg u := by
  induction p with
  | nil => exact hu
  | @snoc rs u C p h ih =>
    refine ⟨by rw [bump_len]; exact ih.len, fun s hs => ?_⟩
    rw [bump_cyc ih.len h]
    split
    · rename_i hm; have := h.used s hm; lia
    · have := ih.le s hs; lia
/-- no site is its own address -/
noncomputable def NoSelf (tg : List (List Nat)) : Prop := ∀ s, s ∉ tg.getD s []
theorem nextSite_ne {tg : List (List Nat)} (n : NoSelf tg) {u : List Nat} {s : Nat} (hs : s < 5) : nextSite tg u s ≠ s := by
  unfold nextSite
  split
  · rename_i h
    intro e
    refine n s ?_
    have : (tg.getD s []).getD (u.getD s 0) 0 ∈ tg.getD s [] := by
      rw [List.getD_eq_getElem?_getD (l := tg.getD s []), List.getElem?_eq_getElem h]; exact List.getElem_mem _
    rw [e] at this; exact this
  · lia
theorem sum_lt2 {f g : Nat → Nat} : ∀ (l : List Nat) (x y : Nat), x ∈ l → y ∈ l → x ≠ y → f x < g x → f y < g y → (∀ x ∈ l, f x ≤ g x) → (l.map f).sum + 2 ≤ (l.map g).sum
  | z :: r, x, y, hx, hy, hne, h1, h2, h => by
    simp only [List.map_cons, List.sum_cons]
    have hz := h z (.head _)
    have hr : ∀ y ∈ r, f y ≤ g y := fun y hy => h y (.tail _ hy)
    rcases List.mem_cons.mp hx with ex | hx'
    · rcases List.mem_cons.mp hy with ey | hy'
      · exact absurd (ex.trans ey.symm) hne
      · subst ex; have := sum_lt_sum r y hy' h2 hr; lia
    · rcases List.mem_cons.mp hy with ey | hy'
      · subst ey; have := sum_lt_sum r x hx' h1 hr; lia
      · have := sum_lt2 r x y hx' hy' hne h1 h2 hr; lia
theorem Pops.few {tg : List (List Nat)} (n : NoSelf tg) {u₀ : List Nat} {rs : List (List Nat)} {u : List Nat} (p : Pops tg u₀ rs u) (hu : UOk tg u₀) : 2 * rs.length + pot tg u ≤ pot tg u₀ := by
  induction p with
  | nil => simp
  | @snoc rs u C p h ih =>
    have uo := p.uok hu
    obtain ⟨x, r, e⟩ : ∃ x r, C = x :: r := by
      cases hC : C with
      | nil => exact absurd hC h.ne
      | cons x r => exact ⟨x, r, rfl⟩
    have hx : x ∈ C := by rw [e]; exact .head _
    have hy := h.cl x hx
    have hne := nextSite_ne n (u := u) (h.lt x hx)
    have : pot tg (bump u C) + 2 ≤ pot tg u := by
      unfold pot
      refine sum_lt2 _ x (nextSite tg u x) (List.mem_range.mpr (h.lt x hx)) (List.mem_range.mpr (h.lt _ hy)) (Ne.symm hne) ?_ ?_ fun z _ => ?_
      · rw [bump_cyc uo.len h, if_pos hx]; have := h.used x hx; lia
      · rw [bump_cyc uo.len h, if_pos hy]; have := h.used _ hy; lia
      · rw [bump_cyc uo.len h]; lia
    rw [List.length_append, List.length_singleton]; lia
end
section
/-! a way and where it goes -/
noncomputable def Link (f : Nat → Nat) : List Nat → Nat → Prop
  | [], _ => True
  | x :: w, s => f x = w.headD s ∧ Link f w s
theorem Link.snoc {f : Nat → Nat} : ∀ {w : List Nat} {s : Nat}, Link f w s → Link f (w ++ [s]) (f s)
  | [], s, _ => ⟨rfl, trivial⟩
  | x :: w, s, h => ⟨by rw [h.1]; cases w <;> rfl, Link.snoc h.2⟩
theorem Link.left {f : Nat → Nat} : ∀ {a b : List Nat} {s : Nat}, Link f (a ++ b) s → Link f a (b.headD s)
  | [], _, _, _ => trivial
  | x :: a, b, s, h => ⟨by rw [h.1]; cases a <;> rfl, Link.left h.2⟩
theorem Link.right {f : Nat → Nat} : ∀ {a b : List Nat} {s : Nat}, Link f (a ++ b) s → Link f b s
  | [], _, _, h => h
  | x :: a, b, s, h => Link.right (a := a) h.2
theorem Link.congr {f g : Nat → Nat} : ∀ {w : List Nat} {s : Nat}, (∀ x ∈ w, f x = g x) → Link f w s → Link g w s
  | [], _, _, _ => trivial
  | x :: w, s, e, h => ⟨by rw [← e x (.head _)]; exact h.1, Link.congr (fun y hy => e y (.tail _ hy)) h.2⟩
theorem Link.next {f : Nat → Nat} : ∀ {w : List Nat} {s : Nat}, Link f w s → ∀ x ∈ w, f x ∈ w ∨ f x = s
  | x :: w, s, h, y, hy => by
    rcases List.mem_cons.mp hy with e | hy'
    · subst e
      rw [h.1]
      cases w with
      | nil => exact .inr rfl
      | cons z w => exact .inl (.tail _ (.head _))
    · exact (Link.next h.2 y hy').imp (.tail _) id
theorem Link.end_ {f : Nat → Nat} {D : Nat → Prop} : ∀ {w : List Nat} {s : Nat}, Link f w s → ∀ x ∈ w, D x → (∀ y ∈ w, D y → D (f y)) → D s
  | x :: w, s, h, y, hy, hD, hc => by
    have hc' : ∀ y ∈ w, D y → D (f y) := fun y hy => hc y (.tail _ hy)
    rcases List.mem_cons.mp hy with e | hy'
    · subst e
      have h1 := hc y (.head _) hD
      rw [h.1] at h1
      cases w with
      | nil => exact h1
      | cons z w => exact Link.end_ h.2 z (.head _) h1 hc'
    · exact Link.end_ h.2 y hy' hD hc'
theorem Link.from_ {f : Nat → Nat} {D : Nat → Prop} : ∀ {w : List Nat} {s : Nat}, Link f w s → D (w.headD s) → (∀ y ∈ w, D y → D (f y)) → ∀ y ∈ w, D y
  | x :: w, s, h, h0, hc, y, hy => by
    have hx : D x := h0
    rcases List.mem_cons.mp hy with e | hy'
    · subst e; exact hx
    · refine Link.from_ h.2 ?_ (fun y hy => hc y (.tail _ hy)) y hy'
      rw [← h.1]; exact hc x (.head _) hx
/-- a way that comes back to its head is a ring -/
theorem Link.cyc {tg : List (List Nat)} {u : List Nat} {c : Nat} {r : List Nat} (h : Link (nextSite tg u) (c :: r) c) (nd : (c :: r).Nodup) (lt : ∀ x ∈ c :: r, x < 5) : Cyc tg u (c :: r) := by
  refine ⟨by simp, nd, lt, fun x hx => ?_, fun x hx D hD hc y hy => ?_⟩
  · rcases h.next x hx with h | h
    · exact h
    · rw [h]; exact .head _
  · exact h.from_ (h.end_ x hx hD hc) hc y hy
/-! what the walkers keep -/
structure Safe (tg : List (List Nat)) (u L : List Nat) : Prop where
  cl : ∀ x ∈ L, x ≠ 5 → nextSite tg u x ∈ L
  off : ∀ C, Cyc tg u C → ∀ x ∈ C, x ∉ L
theorem Safe.bump {tg : List (List Nat)} {u L D : List Nat} (hu : u.length = 5) (s : Safe tg u L) (h : Cyc tg u D) : Safe tg (bump u D) L := by
  have off := s.off D h
  have eg : ∀ x, x ∉ D → (Mine.bump u D).getD x 0 = u.getD x 0 := fun x hx => by rw [bump_cyc hu h, if_neg hx]; rfl
  refine ⟨fun x hx h5 => ?_, fun C hC x hx hL => ?_⟩
  · rw [nextSite_congr (eg x fun hd => off x hd hx)]; exact s.cl x hx h5
  · have all : ∀ y ∈ C, y ∈ L := hC.tr x hx (· ∈ L) hL fun y hy hyL => by
      show nextSite tg (Mine.bump u D) y ∈ L
      rw [nextSite_congr (eg y fun hd => off y hd hyL)]
      exact s.cl y hyL (by have := hC.lt y hy; lia)
    exact s.off C (hC.congr fun y hy => eg y fun hd => off y hd (all y hy)) x hx hL
structure Walk (tg : List (List Nat)) (settled : List Nat) (start : Nat) (st : WS) : Prop where
  inv : WInv tg settled st
  pops : Pops tg [0, 0, 0, 0, 0] st.rings st.used
  safe : Safe tg st.used settled
  link : Link (nextSite tg st.used) st.way st.site
  head : st.way.headD st.site = start
theorem Walk.step {tg : List (List Nat)} (T : TgOk tg) {settled : List Nat} {start : Nat} {st : WS} (W : Walk tg settled start st) (hs : st.site ∉ settled) : Walk tg settled start (stepW tg st) := by
  have inv' := (stepW_inv T W.inv hs).1
  have ul := W.inv.u.len
  by_cases h : st.site ∈ st.way
  · have hd := drop_idx h
    have hsp := List.take_append_drop (st.way.idxOf st.site) st.way
    generalize hj : st.way.idxOf st.site = j at hd hsp
    have hnd := W.inv.nd
    rw [← hsp] at hnd
    obtain ⟨n1, n2, n3⟩ := List.nodup_append.mp hnd
    have lk := W.link
    rw [← hsp] at lk
    have lr : Link (nextSite tg st.used) (st.way.drop j) st.site := lk.right
    have ll := lk.left
    rw [hd] at lr ll n2
    have cyc : Cyc tg st.used (st.site :: st.way.drop (j + 1)) := lr.cyc n2 fun x hx => W.inv.lt x (by rw [← hd] at hx; exact List.mem_of_mem_drop hx)
    have ep : popW st = ⟨bump st.used (st.site :: st.way.drop (j + 1)), st.rings ++ [ringRow st.used (st.site :: st.way.drop (j + 1))], st.way.take j, st.site⟩ := by
      unfold popW; rw [if_pos h, hj, hd]
    have hoff : ∀ x ∈ st.way.take j, x ∉ st.site :: st.way.drop (j + 1) := fun x hx hxd => by rw [← hd] at hxd; exact n3 x hx x hxd rfl
    refine ⟨inv', ?_, ?_, ?_, ?_⟩
    · show Pops tg _ (popW st).rings (popW st).used
      rw [ep]; exact .snoc W.pops cyc
    · show Safe tg (popW st).used settled
      rw [ep]; exact W.safe.bump ul cyc
    · show Link (nextSite tg (popW st).used) ((popW st).way ++ [st.site]) (nextSite tg (popW st).used st.site)
      refine Link.snoc ?_
      rw [ep]
      refine ll.congr fun x hx => nextSite_congr ?_
      rw [bump_cyc ul cyc, if_neg (hoff x hx)]; rfl
    · show ((popW st).way ++ [st.site]).headD _ = start
      rw [ep, ← W.head]
      conv => rhs; rw [← hsp, hd]
      cases st.way.take j <;> rfl
  · have ep : popW st = st := by unfold popW; rw [if_neg h]
    refine ⟨inv', ?_, ?_, ?_, ?_⟩
    · show Pops tg _ (popW st).rings (popW st).used
      rw [ep]; exact W.pops
    · show Safe tg (popW st).used settled
      rw [ep]; exact W.safe
    · show Link (nextSite tg (popW st).used) ((popW st).way ++ [st.site]) (nextSite tg (popW st).used st.site)
      rw [ep]; exact W.link.snoc
    · show ((popW st).way ++ [st.site]).headD _ = start
      rw [ep, ← W.head]
      cases st.way <;> rfl
theorem Walk.loop {tg : List (List Nat)} (T : TgOk tg) {settled : List Nat} {start : Nat} : ∀ (k : Nat) {st : WS}, Walk tg settled start st → Walk tg settled start (loopW tg settled k st)
  | 0, st, W => W
  | k + 1, st, W => by
    unfold loopW
    by_cases hs : st.site ∈ settled
    · rw [if_pos hs]; exact W
    · rw [if_neg hs]; exact Walk.loop T k (W.step T hs)
structure Home (tg : List (List Nat)) (start k : Nat) (o : OS) : Prop where
  inv : OInv tg k o
  pops : Pops tg [0, 0, 0, 0, 0] o.rings o.used
  safe : Safe tg o.used o.settled
  there : ∀ t, t < k → (start + t) % 5 ∈ o.settled
theorem Home.next {tg : List (List Nat)} (T : TgOk tg) {start k : Nat} {o : OS} (H : Home tg start k o) : Home tg start (k + 1) (walkOne tg start k o) := by
  have st := H.inv.start (start + k)
  have W0 : Walk tg o.settled ((start + k) % 5) ⟨o.used, o.rings, [], (start + k) % 5⟩ := ⟨st.1, H.pops, H.safe, trivial, rfl⟩
  have W := W0.loop T 100
  have hs := (loopW_inv T 100 _ st.1 st.2).2
  have inv := H.inv.next T start k
  unfold walkOne at inv ⊢
  generalize loopW tg o.settled 100 ⟨o.used, o.rings, [], (start + k) % 5⟩ = z at W hs inv ⊢
  dsimp only at inv ⊢
  refine ⟨inv, W.pops, ⟨fun x hx h5 => ?_, fun C hC x hx hL => ?_⟩, fun t ht => ?_⟩
  · rcases List.mem_append.mp hx with h | h
    · exact List.mem_append_left _ (W.safe.cl x h h5)
    · rcases W.link.next x h with h | h
      · exact List.mem_append_right _ h
      · rw [h]; exact List.mem_append_left _ hs
  · rcases List.mem_append.mp hL with h | h
    · exact W.safe.off C hC x hx h
    · refine W.safe.off C hC z.site (W.link.end_ x h (D := (· ∈ C)) hx fun y _ hy => hC.cl y hy) hs
  · by_cases e : t = k
    · subst e
      rw [← W.head]
      cases hw : z.way with
      | nil => exact List.mem_append_left _ hs
      | cons a r => exact List.mem_append_right _ (.head _)
    · exact List.mem_append_left _ (H.there t (by lia))
theorem walkers_home {tg : List (List Nat)} (T : TgOk tg) (start : Nat) : ∀ k, Home tg start k (walkers tg start k)
  | 0 => by
    refine ⟨OInv.zero T, .nil, ⟨fun x hx h5 => ?_, fun C hC x hx hL => ?_⟩, fun t ht => absurd ht (Nat.not_lt_zero _)⟩
    · exact absurd (List.mem_singleton.mp hx) h5
    · have := hC.lt x hx
      have := List.mem_singleton.mp hL
      lia
  | k + 1 => (walkers_home T start k).next T
theorem walkers_run {tg : List (List Nat)} (T : TgOk tg) (start : Nat) : Run tg [0, 0, 0, 0, 0] (walkers tg start 5).rings (walkers tg start 5).used := by
  have H := walkers_home T start 5
  refine H.pops.end_ fun C hC => ?_
  obtain ⟨x, hx⟩ := List.exists_mem_of_ne_nil C hC.ne
  have x5 := hC.lt x hx
  refine H.safe.off C hC x hx ?_
  have := H.there ((x + 5 - start % 5) % 5) (Nat.mod_lt _ (by decide))
  rw [show (start + (x + 5 - start % 5) % 5) % 5 = x by lia] at this
  exact this
/-! the rings of a picture -/
noncomputable def leadsOf (tg : List (List Nat)) (u : List Nat) : List Nat := (List.range 5).map (nextSite tg u)
theorem leads_get {tg : List (List Nat)} {u : List Nat} {s : Nat} (h : s < 5) : (leadsOf tg u).getD s 0 = nextSite tg u s := by
  unfold leadsOf; simp [List.getD_eq_getElem?_getD, h]
theorem lastN_snoc (w : List Nat) (x : Nat) : lastN (w ++ [x]) = x := by simp [lastN]
/-- a way from m, as far as it goes -/
structure Way (f : Nat → Nat) (m : Nat) (w : List Nat) : Prop where
  ne : w ≠ []
  head : w.headD 0 = m
  link : Link f w (f (lastN w))
  nd : w.Nodup
  lt : ∀ x ∈ w, x < 5
theorem Link.init {f : Nat → Nat} : ∀ {w : List Nat} {s t : Nat}, w ≠ [] → Link f w s → f (lastN w) = s
  | [x], s, _, _, h => h.1
  | x :: y :: w, s, t, _, h => by
    have := Link.init (t := t) (w := y :: w) (by simp) h.2
    rw [← this]
    congr 1
theorem Way.more {f : Nat → Nat} {m : Nat} {w : List Nat} (W : Way f m w) (h5 : f (lastN w) < 5) (hn : f (lastN w) ∉ w) : Way f m (w ++ [f (lastN w)]) := by
  refine ⟨by simp, ?_, ?_, ?_, fun x hx => ?_⟩
  · rw [← W.head]; cases hw : w with
    | nil => exact absurd hw W.ne
    | cons _ _ => rfl
  · rw [lastN_snoc]; exact W.link.snoc
  · rw [List.nodup_append]
    exact ⟨W.nd, by simp, fun a ha b hb e => by rw [List.mem_singleton] at hb; subst hb; exact hn (e ▸ ha)⟩
  · rcases List.mem_append.mp hx with h | h
    · exact W.lt x h
    · rw [List.mem_singleton] at h; rw [h]; exact h5
theorem follow_way {tg : List (List Nat)} (T : TgOk tg) {u : List Nat} {m : Nat} : ∀ (k : Nat) {w : List Nat}, Way (nextSite tg u) m w → 5 ≤ w.length + k →
    Way (nextSite tg u) m (follow (leadsOf tg u) k w) ∧ ¬ (nextSite tg u (lastN (follow (leadsOf tg u) k w)) ≠ 5 ∧ nextSite tg u (lastN (follow (leadsOf tg u) k w)) ∉ follow (leadsOf tg u) k w)
  | 0, w, W, hk => by
    refine ⟨W, fun h => ?_⟩
    have l5 := W.lt _ (lastN_mem W.ne)
    have := nextSite_le T u l5
    have h5 : nextSite tg u (lastN w) < 5 := by have := h.1; show nextSite tg u (lastN (follow (leadsOf tg u) 0 w)) < 5; unfold follow at *; lia
    have W' := W.more h5 h.2
    have := nodup_len 5 _ W'.nd W'.lt
    rw [List.length_append, List.length_singleton] at this
    lia
  | k + 1, w, W, hk => by
    have l5 := W.lt _ (lastN_mem W.ne)
    unfold follow
    rw [leads_get l5]
    by_cases h : nextSite tg u (lastN w) ≠ 5 ∧ nextSite tg u (lastN w) ∉ w
    · rw [if_pos h]
      have := nextSite_le T u l5
      exact follow_way T k (W.more (by lia) h.2) (by rw [List.length_append, List.length_singleton]; lia)
    · rw [if_neg h]; exact ⟨W, h⟩
theorem ring_way {tg : List (List Nat)} (T : TgOk tg) (u : List Nat) {m : Nat} (hm : m < 5) : Way (nextSite tg u) m (ringOf (leadsOf tg u) m) ∧ ¬ (nextSite tg u (lastN (ringOf (leadsOf tg u) m)) ≠ 5 ∧ nextSite tg u (lastN (ringOf (leadsOf tg u) m)) ∉ ringOf (leadsOf tg u) m) :=
  follow_way T 4 ⟨by simp, rfl, ⟨rfl, trivial⟩, by simp, fun x hx => by rw [List.mem_singleton] at hx; lia⟩ (by simp)
theorem rings_cyc {tg : List (List Nat)} (T : TgOk tg) {u C : List Nat} (h : C ∈ rings (leadsOf tg u)) : Cyc tg u C := by
  unfold rings ringsTo at h
  obtain ⟨m, hm, rfl⟩ := List.mem_map.mp h
  obtain ⟨hm5, hr⟩ := List.mem_filter.mp hm
  have hm5 := List.mem_range.mp hm5
  obtain ⟨W, _⟩ := ring_way T u hm5
  unfold isRing at hr
  rw [Bool.and_eq_true, beq_iff_eq] at hr
  have l5 := W.lt _ (lastN_mem W.ne)
  rw [leads_get l5] at hr
  generalize ringOf (leadsOf tg u) m = w at W hr l5
  cases hw : w with
  | nil => exact absurd hw W.ne
  | cons a r =>
    have ha : a = m := by rw [← W.head, hw]; rfl
    have lk := W.link
    rw [hr.1, ← ha, hw] at lk
    have nd := W.nd
    rw [hw] at nd
    exact lk.cyc nd fun x hx => W.lt x (by rw [hw]; exact hx)
theorem rings_none {tg : List (List Nat)} (T : TgOk tg) {u : List Nat} (h : rings (leadsOf tg u) = []) : NoCyc tg u := by
  intro C hC
  -- the smallest site of the ring
  obtain ⟨m, hm, hmin⟩ : ∃ m ∈ C, ∀ x ∈ C, m ≤ x := by
    have : ∀ l : List Nat, l ≠ [] → ∃ m ∈ l, ∀ x ∈ l, m ≤ x := by
      intro l
      induction l with
      | nil => exact fun h => absurd rfl h
      | cons a r ih =>
        intro _
        by_cases hr : r = []
        · subst hr; exact ⟨a, .head _, fun x hx => by rw [List.mem_singleton] at hx; lia⟩
        · obtain ⟨m, h1, h2⟩ := ih hr
          by_cases hc : a ≤ m
          · exact ⟨a, .head _, fun x hx => by rcases List.mem_cons.mp hx with e | e; lia; have := h2 x e; lia⟩
          · exact ⟨m, .tail _ h1, fun x hx => by rcases List.mem_cons.mp hx with e | e; lia; exact h2 x e⟩
    exact this C hC.ne
  have m5 := hC.lt m hm
  obtain ⟨W, stop⟩ := ring_way T u m5
  have sub : ∀ x ∈ ringOf (leadsOf tg u) m, x ∈ C := W.link.from_ (D := (· ∈ C)) (by
    have := W.head
    cases hw : ringOf (leadsOf tg u) m with
    | nil => exact absurd hw W.ne
    | cons a r => rw [hw] at this; show a ∈ C; rw [show a = m from this]; exact hm) fun y _ hy => hC.cl y hy
  have l5 := W.lt _ (lastN_mem W.ne)
  have last : nextSite tg u (lastN (ringOf (leadsOf tg u) m)) = m := by
    have hin := hC.cl _ (sub _ (lastN_mem W.ne))
    have h5 := hC.lt _ hin
    have hmem : nextSite tg u (lastN (ringOf (leadsOf tg u) m)) ∈ ringOf (leadsOf tg u) m := by
      by_cases h : nextSite tg u (lastN (ringOf (leadsOf tg u) m)) ∈ ringOf (leadsOf tg u) m
      · exact h
      · exact absurd ⟨by lia, h⟩ stop
    generalize ringOf (leadsOf tg u) m = w at W sub l5 hin h5 hmem
    -- cut the way where its end leads to
    have hsp := List.take_append_drop (w.idxOf (nextSite tg u (lastN w))) w
    have hd := drop_idx hmem
    generalize hj : w.idxOf (nextSite tg u (lastN w)) = j at hsp hd
    have lk := W.link
    rw [← hsp] at lk
    have lr : Link (nextSite tg u) (w.drop j) (nextSite tg u (lastN w)) := by
      have := lk.right; rw [hsp] at this; exact this
    rw [hd] at lr
    -- the ring's every site lies in the way's end
    have all : ∀ y ∈ C, y ∈ nextSite tg u (lastN w) :: w.drop (j + 1) := hC.tr _ hin (· ∈ nextSite tg u (lastN w) :: w.drop (j + 1)) (.head _) fun y _ hy => by
      rcases lr.next y hy with h | h
      · exact h
      · rw [h]; exact .head _
    have hmd := all m hm
    rw [← hd] at hmd
    have hnd := W.nd
    rw [← hsp] at hnd
    obtain ⟨_, _, n3⟩ := List.nodup_append.mp hnd
    cases ht : w.take j with
    | nil =>
      have hh := W.head
      rw [← hsp, ht, hd] at hh
      exact hh
    | cons a r =>
      have hh := W.head
      rw [← hsp, ht] at hh
      have : a = m := hh
      exact absurd this (n3 a (by rw [ht]; exact .head _) m hmd)
  have hr : isRing (leadsOf tg u) m = true := by
    unfold isRing
    rw [leads_get l5, last, Bool.and_eq_true]
    exact ⟨by simp, List.all_eq_true.mpr fun x hx => decide_eq_true (hmin x (sub x hx))⟩
  have : ringOf (leadsOf tg u) m ∈ rings (leadsOf tg u) := List.mem_map.mpr ⟨m, List.mem_filter.mpr ⟨List.mem_range.mpr m5, hr⟩, rfl⟩
  rw [h] at this
  exact absurd this (by simp)
end
section
/-! the mail, as it comes out -/
noncomputable def plain (x : Nat) : Prop := x ≠ 13 ∧ x ≠ 10
theorem crlf_plain : ∀ (a : List Nat) (p : Bool) (r : List Nat), (∀ x ∈ a, plain x) → a ≠ [] → crlf p (a ++ r) = a ++ crlf false r
  | [], _, _, _, h => absurd rfl h
  | [x], p, r, h, _ => by
    have hx := h x (.head _)
    show (if x = 13 then _ else if x = 10 then _ else _) = _
    rw [if_neg hx.1, if_neg hx.2]; rfl
  | x :: y :: a, p, r, h, _ => by
    have hx := h x (.head _)
    have ih := crlf_plain (y :: a) false r (fun z hz => h z (.tail _ hz)) (by simp)
    show crlf p (x :: (y :: a ++ r)) = x :: (y :: a ++ crlf false r)
    rw [← ih]
    show (if x = 13 then _ else if x = 10 then _ else _) = _
    rw [if_neg hx.1, if_neg hx.2]
theorem crlf_true {r : List Nat} (h : r.head? ≠ some 10) : crlf true r = crlf false r := by
  cases r with
  | nil => rfl
  | cons x r =>
    have hx : x ≠ 10 := fun e => h (by rw [e]; rfl)
    unfold crlf
    rw [if_neg hx, if_neg hx]
theorem crlf_end {i : Nat} (hi : i < 3) {r : List Nat} (h : r.head? ≠ some 10) : crlf false (ends3.getD i [] ++ r) = 13 :: 10 :: crlf false r := by
  refine lt3 (P := fun i => crlf false (ends3.getD i [] ++ r) = 13 :: 10 :: crlf false r) rfl ?_ rfl i hi
  show 13 :: 10 :: crlf true r = _; rw [crlf_true h]
theorem dotted_plain : ∀ (a r : List Nat), (∀ x ∈ a, x ≠ 10) → dotted false (a ++ r) = a ++ dotted false r
  | [], _, _ => rfl
  | x :: a, r, h => by
    have hx := h x (.head _)
    have ih := dotted_plain a r fun z hz => h z (.tail _ hz)
    show (if false = true ∧ x = 46 then _ else x :: dotted (x == 10) (a ++ r)) = _
    rw [if_neg (by simp), show (x == 10) = false by simpa using hx, ih]; rfl
theorem rep_cons (n : Nat) (r : List Nat) : List.replicate (1 + n) 46 ++ r = 46 :: (List.replicate n 46 ++ r) := by
  rw [Nat.add_comm, List.replicate_succ]; rfl
/-- a bare row -/
theorem row_bare {n l : Nat} (hl : plain l) (r : List Nat) : dotted true (List.replicate (1 + n) 46 ++ [l] ++ 13 :: 10 :: r) = List.replicate (2 + n) 46 ++ [l, 13, 10] ++ dotted true r := by
  rw [List.append_assoc, rep_cons]
  show 46 :: 46 :: dotted false (List.replicate n 46 ++ ([l] ++ 13 :: 10 :: r)) = _
  have e : List.replicate n 46 ++ ([l] ++ 13 :: 10 :: r) = (List.replicate n 46 ++ [l, 13]) ++ (10 :: r) := by simp
  rw [e, dotted_plain _ _ (fun x hx => by
    rcases List.mem_append.mp hx with h | h
    · rw [List.eq_of_mem_replicate h]; decide
    · rcases List.mem_cons.mp h with h | h
      · rw [h]; exact hl.2
      · rw [List.mem_singleton] at h; rw [h]; decide)]
  show _ :: _ :: (_ ++ 10 :: dotted true r) = _
  rw [show 2 + n = n + 1 + 1 by lia, List.replicate_succ, List.replicate_succ]
  simp
theorem row_hid {n l h : Nat} (hl : plain l) (hh : h ≠ 46 ∧ plain h) (r : List Nat) : dotted true ([h] ++ (List.replicate (1 + n) 46 ++ [l] ++ 13 :: 10 :: r)) = [h] ++ (List.replicate (1 + n) 46 ++ [l, 13, 10] ++ dotted true r) := by
  show (if true = true ∧ h = 46 then _ else h :: dotted (h == 10) _) = _
  rw [if_neg (fun e => hh.1 e.2), show (h == 10) = false by simpa using hh.2.2]
  show h :: dotted false (List.replicate (1 + n) 46 ++ [l] ++ 13 :: 10 :: r) = _
  have e : List.replicate (1 + n) 46 ++ [l] ++ 13 :: 10 :: r = (List.replicate (1 + n) 46 ++ [l, 13]) ++ (10 :: r) := by simp
  rw [e, dotted_plain _ _ (fun x hx => by
    rcases List.mem_append.mp hx with h | h
    · rw [List.eq_of_mem_replicate h]; decide
    · rcases List.mem_cons.mp h with h | h
      · rw [h]; exact hl.2
      · rw [List.mem_singleton] at h; rw [h]; decide)]
  show _ :: (_ ++ 10 :: dotted true r) = _
  simp
/-! signs -/
theorem hidN_b1 (d : Nat) : b1 (hidN d) = true ∧ hidN d ≠ 46 ∧ plain (hidN d) := by
  have hm : (d : Int).fmod 27 = ((d % 27 : Nat) : Int) := by rw [Int.fmod_eq_emod_of_nonneg _ (by lia)]; exact (Int.natCast_emod d 27).symm
  have h27 : d % 27 < 27 := Nat.mod_lt _ (by decide)
  unfold hidN hidI
  rw [hm]
  generalize d % 27 = k at h27
  have : ∀ k : Fin 27, b1 (if (k.1 : Int) < 11 then hidCodes.getD (k.1 : Int).toNat 0 else 65013 + (k.1 : Int)).toNat = true ∧ (if (k.1 : Int) < 11 then hidCodes.getD (k.1 : Int).toNat 0 else 65013 + (k.1 : Int)).toNat ≠ 46 ∧ (if (k.1 : Int) < 11 then hidCodes.getD (k.1 : Int).toNat 0 else 65013 + (k.1 : Int)).toNat ≠ 13 ∧ (if (k.1 : Int) < 11 then hidCodes.getD (k.1 : Int).toNat 0 else 65013 + (k.1 : Int)).toNat ≠ 10 := by decide
  exact this ⟨k, h27⟩
theorem besN_ok (d : Nat) : b1 (besN d) = false ∧ plain (besN d) ∧ 172 ≤ besN d := by
  have hm : (d : Int).fmod 16 = ((d % 16 : Nat) : Int) := by rw [Int.fmod_eq_emod_of_nonneg _ (by lia)]; exact (Int.natCast_emod d 16).symm
  have h16 : d % 16 < 16 := Nat.mod_lt _ (by decide)
  unfold besN besI
  rw [hm]
  generalize d % 16 = k at h16
  have : ∀ k : Fin 16, b1 (besCodes.getD (k.1 : Int).toNat 0).toNat = false ∧ ((besCodes.getD (k.1 : Int).toNat 0).toNat ≠ 13 ∧ (besCodes.getD (k.1 : Int).toNat 0).toNat ≠ 10) ∧ 172 ≤ (besCodes.getD (k.1 : Int).toNat 0).toNat := by decide
  exact this ⟨k, h16⟩
noncomputable abbrev keep (l : List Nat) : List Nat := l.filter fun x => !b1 x
theorem keep_all {l : List Nat} (h : ∀ x ∈ l, b1 x = false) : keep l = l := List.filter_eq_self.mpr fun x hx => by rw [h x hx]; rfl
theorem keep_app (a b : List Nat) : keep (a ++ b) = keep a ++ keep b := List.filter_append ..
/-- what may stand in a row -/
structure Letters (letters : List Nat) : Prop where
  len : letters.length = 5
  ok : ∀ x ∈ letters, plain x ∧ b1 x = false
theorem Letters.get {letters : List Nat} (L : Letters letters) {s : Nat} (h : s < 5) : plain (letters.getD s 0) ∧ b1 (letters.getD s 0) = false := by
  rw [List.getD_eq_getElem?_getD, List.getElem?_eq_getElem (by rw [L.len]; exact h)]
  exact L.ok _ (List.getElem_mem _)
noncomputable def rowM (v letters : List Nat) (s : Nat) : List Nat := List.replicate (1 + v.getD s 0) 46 ++ [letters.getD s 0, 13, 10]
noncomputable def rowsM (v letters : List Nat) (turn k : Nat) : List Nat := ((List.range k).map fun i => rowM v letters ((turn + i) % 5)).flatten
noncomputable def tailM (turn draw : Nat) : List Nat := [13, 10, 46, 46, 13, 10] ++ List.replicate (2 + turn) 46 ++ [besN (draw + turn)] ++ [46] ++ if (draw / 16 + turn) % 4 = 0 then [] else [13, 10]
noncomputable def mailM (v letters : List Nat) (turn draw : Nat) : List Nat := rowsM v letters turn 5 ++ tailM turn draw
noncomputable def upTo (level bare : List Nat) : List Nat := (List.range 5).map fun s => level.getD s 0 + if s ∈ bare then 1 else 0
theorem upTo_get (level bare : List Nat) {s : Nat} (h : s < 5) : (upTo level bare).getD s 0 = level.getD s 0 + if s ∈ bare then 1 else 0 := by
  unfold upTo; simp [List.getD_eq_getElem?_getD, h]
theorem keep_dots (n : Nat) : keep (List.replicate n 46) = List.replicate n 46 := keep_all fun x hx => by rw [List.eq_of_mem_replicate hx]; decide
theorem rowT_head (level bare letters : List Nat) (turn draw k : Nat) (r : List Nat) : (rowT level bare letters turn draw k ++ r).head? ≠ some 10 := by
  unfold rowT
  split
  · rw [List.nil_append, List.append_assoc, List.append_assoc, rep_cons]; simp
  · have := (hidN_b1 (draw + turn + k)).2.2.2
    simpa using this
theorem row_out {level bare letters : List Nat} (L : Letters letters) (turn draw k : Nat) (r : List Nat) (hr : r.head? ≠ some 10) :
    keep (dotted true (crlf false (rowT level bare letters turn draw k ++ r))) = rowM (upTo level bare) letters ((turn + k) % 5) ++ keep (dotted true (crlf false r)) := by
  have h5 : (turn + k) % 5 < 5 := Nat.mod_lt _ (by decide)
  have h3 : (draw + turn + k) % 3 < 3 := Nat.mod_lt _ (by decide)
  obtain ⟨lp, lb⟩ := L.get h5
  obtain ⟨hb, h46, hp⟩ := hidN_b1 (draw + turn + k)
  unfold rowT rowM
  rw [upTo_get _ _ h5]
  generalize letters.getD ((turn + k) % 5) 0 = l at lp lb
  generalize level.getD ((turn + k) % 5) 0 = n
  generalize hidN (draw + turn + k) = h at hb h46 hp
  have pd : ∀ x ∈ List.replicate (1 + n) 46 ++ [l], plain x := fun x hx => by
    rcases List.mem_append.mp hx with h | h
    · rw [List.eq_of_mem_replicate h]; exact ⟨by decide, by decide⟩
    · rw [List.mem_singleton] at h; rw [h]; exact lp
  have kl : keep [l, 13, 10] = [l, 13, 10] := keep_all fun x hx => by
    rcases List.mem_cons.mp hx with h | h
    · rw [h]; exact lb
    · rcases List.mem_cons.mp h with h | h
      · rw [h]; decide
      · rw [List.mem_singleton] at h; rw [h]; decide
  by_cases hm : (turn + k) % 5 ∈ bare
  · rw [if_pos hm, if_pos hm, List.nil_append, List.append_assoc, crlf_plain _ _ _ pd (by simp), crlf_end h3 hr, row_bare lp, keep_app, keep_app, keep_dots, kl]
    rw [show 2 + n = 1 + (n + 1) by lia]
  · rw [if_neg hm, if_neg hm, List.append_assoc, List.append_assoc, ← List.append_assoc [h]]
    rw [crlf_plain _ _ _ (fun x hx => by
      rcases List.mem_append.mp hx with q | q
      · rw [List.mem_singleton] at q; rw [q]; exact hp
      · exact pd x q) (by simp), crlf_end h3 hr, List.append_assoc, row_hid lp ⟨h46, hp⟩, keep_app, keep_app, keep_app, keep_dots, kl]
    have : keep [h] = [] := by simp [keep, hb]
    rw [this]
    simp
theorem rows_out {level bare letters : List Nat} (L : Letters letters) (turn draw : Nat) (r : List Nat) (hr : r.head? ≠ some 10) : ∀ (l : List Nat),
    keep (dotted true (crlf false ((l.map (rowT level bare letters turn draw)).flatten ++ r))) = (l.map fun i => rowM (upTo level bare) letters ((turn + i) % 5)).flatten ++ keep (dotted true (crlf false r))
  | [] => rfl
  | k :: l => by
    rw [List.map_cons, List.flatten_cons, List.append_assoc, row_out L, rows_out L turn draw r hr l, List.map_cons, List.flatten_cons, List.append_assoc]
    cases l with
    | nil => exact hr
    | cons k' l => rw [List.map_cons, List.flatten_cons, List.append_assoc]; exact rowT_head _ _ _ _ _ _ _
theorem crlf_ends4 {i : Nat} (h : i < 4) : crlf false (ends4.getD i []) = if i = 0 then [] else [13, 10] := by
  exact lt4 (P := fun i => crlf false (ends4.getD i []) = if i = 0 then [] else [13, 10]) rfl rfl rfl rfl i h
theorem tail_out (turn draw : Nat) : keep (dotted true (crlf false ([13, 46, 10] ++ List.replicate (1 + turn) 46 ++ [besN (draw + turn)] ++ [46] ++ ends4.getD ((draw / 16 + turn) % 4) []))) = tailM turn draw := by
  obtain ⟨bb, bp, _⟩ := besN_ok (draw + turn)
  unfold tailM
  generalize besN (draw + turn) = b at bb bp
  have h4 : (draw / 16 + turn) % 4 < 4 := Nat.mod_lt _ (by decide)
  generalize (draw / 16 + turn) % 4 = i at h4
  have e1 : [13, 46, 10] ++ List.replicate (1 + turn) 46 ++ [b] ++ [46] ++ ends4.getD i [] = 13 :: 46 :: 10 :: ((List.replicate (1 + turn) 46 ++ [b, 46]) ++ ends4.getD i []) := by simp
  rw [e1]
  show keep (dotted true (13 :: 10 :: 46 :: 13 :: 10 :: crlf false ((List.replicate (1 + turn) 46 ++ [b, 46]) ++ ends4.getD i []))) = _
  rw [crlf_plain _ _ _ (fun x hx => by
    rcases List.mem_append.mp hx with q | q
    · rw [List.eq_of_mem_replicate q]; exact ⟨by decide, by decide⟩
    · rcases List.mem_cons.mp q with q | q
      · rw [q]; exact bp
      · rw [List.mem_singleton] at q; rw [q]; exact ⟨by decide, by decide⟩) (by simp), crlf_ends4 h4]
  show keep (13 :: 10 :: 46 :: 46 :: 13 :: 10 :: dotted true ((List.replicate (1 + turn) 46 ++ [b, 46]) ++ if i = 0 then [] else [13, 10])) = _
  rw [List.append_assoc, rep_cons]
  have hpl : ∀ x ∈ List.replicate turn 46 ++ [b, 46], x ≠ 10 := fun x hx => by
    rcases List.mem_append.mp hx with q | q
    · rw [List.eq_of_mem_replicate q]; decide
    · rcases List.mem_cons.mp q with q | q
      · rw [q]; exact bp.2
      · rw [List.mem_singleton] at q; rw [q]; decide
  show keep (13 :: 10 :: 46 :: 46 :: 13 :: 10 :: 46 :: 46 :: dotted false (List.replicate turn 46 ++ ([b, 46] ++ if i = 0 then [] else [13, 10]))) = _
  rw [← List.append_assoc, dotted_plain _ _ hpl]
  have ed : dotted false (if i = 0 then [] else [13, 10]) = if i = 0 then [] else [13, 10] := by split <;> rfl
  rw [ed]
  rw [show 2 + turn = turn + 1 + 1 by lia, List.replicate_succ, List.replicate_succ]
  have : keep (13 :: 10 :: 46 :: 46 :: 13 :: 10 :: 46 :: 46 :: (List.replicate turn 46 ++ [b, 46] ++ if i = 0 then [] else [13, 10])) = 13 :: 10 :: 46 :: 46 :: 13 :: 10 :: 46 :: 46 :: (List.replicate turn 46 ++ [b, 46] ++ if i = 0 then [] else [13, 10]) := keep_all fun x hx => by
    have : x = 13 ∨ x = 10 ∨ x = 46 ∨ x = b := by
      simp only [List.mem_cons, List.mem_append, List.mem_replicate] at hx
      split at hx <;> simp at hx <;> lia
    rcases this with h | h | h | h
    · rw [h]; decide
    · rw [h]; decide
    · rw [h]; decide
    · rw [h]; exact bb
  rw [this]
  simp
theorem mail_out {level bare letters : List Nat} (L : Letters letters) (turn draw : Nat) : keep (quoteT (postT level bare letters turn draw)) = mailM (upTo level bare) letters turn draw := by
  unfold quoteT postT rowsT mailM rowsM
  rw [rows_out L turn draw _ (by simp), tail_out]
end
section
/-! numbers -/
noncomputable abbrev lettersOf (base : Nat) : List Nat := (List.range 5).map fun s => 97 + base + s
noncomputable abbrev markOf (base s : Nat) : Nat := valT 6 [13, 33 + base + s]
noncomputable abbrev marksOf (base : Nat) : List Nat := (List.range 5).map (markOf base)
theorem markOf_eq (base s : Nat) : markOf base s = 13 + 64 * (33 + base + s) := by simp [markOf, valT]
theorem letters_get {base s : Nat} (h : s < 5) : (lettersOf base).getD s 0 = 97 + base + s := by simp [List.getD_eq_getElem?_getD, h]
theorem lettersOk {base : Nat} (hb : base ≤ 21) : Letters (lettersOf base) := by
  refine ⟨by simp, fun x hx => ?_⟩
  obtain ⟨s, hs, rfl⟩ := List.mem_map.mp hx
  have := List.mem_range.mp hs
  refine ⟨⟨by lia, by lia⟩, ?_⟩
  have k : ∀ i : Fin 27, b1 (97 + i.val) = false := by decide
  have := k ⟨base + s, by lia⟩
  rwa [← Nat.add_assoc] at this
theorem num_dots (n : Nat) (r : List Nat) : numbersT 0 (List.replicate n 46 ++ r) = List.replicate n 46 ++ numbersT 0 r := by
  induction n with
  | zero => rfl
  | succ n ih =>
    rw [List.replicate_succ]
    show 46 :: numbersT 0 (List.replicate n 46 ++ r) = _
    rw [ih]; rfl
theorem num_row {base : Nat} (hb : base ≤ 21) (v : List Nat) {s : Nat} (hs : s < 5) (r : List Nat) :
    numbersT 0 (rowM v (lettersOf base) s ++ r) = List.replicate (1 + v.getD s 0) 46 ++ [markOf base s, 10] ++ numbersT 0 r := by
  unfold rowM
  rw [List.append_assoc, num_dots, letters_get hs, List.append_assoc]
  congr 1
  show (if (97 + base + s) / 64 % 2 = 1 then numbersT (0 * 64 + (97 + base + s) % 64) (13 :: 10 :: r) else _) = _
  rw [if_pos (by lia), show 0 * 64 + (97 + base + s) % 64 = 33 + base + s by lia, markOf_eq]
  show ((33 + base + s) * 64 + 13) :: 10 :: numbersT 0 r = (13 + 64 * (33 + base + s)) :: 10 :: numbersT 0 r
  rw [show (33 + base + s) * 64 + 13 = 13 + 64 * (33 + base + s) by lia]
theorem num_rows {base : Nat} (hb : base ≤ 21) (v : List Nat) (turn : Nat) (r : List Nat) : ∀ l : List Nat,
    numbersT 0 ((l.map fun i => rowM v (lettersOf base) ((turn + i) % 5)).flatten ++ r) = (l.map fun i => List.replicate (1 + v.getD ((turn + i) % 5) 0) 46 ++ [markOf base ((turn + i) % 5), 10]).flatten ++ numbersT 0 r
  | [] => rfl
  | k :: l => by
    rw [List.map_cons, List.flatten_cons, List.append_assoc, num_row hb v (Nat.mod_lt _ (by decide)), num_rows hb v turn r l, List.map_cons, List.flatten_cons, List.append_assoc]
    simp
theorem mark_mem {base s : Nat} (h : s < 5) : markOf base s ∈ marksOf base := List.mem_map.mpr ⟨s, List.mem_range.mpr h, rfl⟩
theorem mark_inv {base x : Nat} (h : x ∈ marksOf base) : x % 64 = 13 ∧ 64 ≤ x := by
  obtain ⟨s, _, rfl⟩ := List.mem_map.mp h
  rw [markOf_eq]; lia
theorem mark_idx {base s : Nat} (h : s < 5) : (marksOf base).idxOf (markOf base s) = s := by
  have hl : s < (marksOf base).length := by simpa using h
  have e : (marksOf base)[s] = markOf base s := by simp
  have nd : (marksOf base).Nodup := by
    rw [List.nodup_iff_pairwise_ne, List.pairwise_map]
    refine List.nodup_range.imp fun {a b} hab => ?_
    rw [markOf_eq, markOf_eq]; lia
  rw [← e]
  exact List.Nodup.idxOf_getElem nd _ _
theorem lev_dots (marks : List Nat) : ∀ (n : Nat) (p : List Int × Nat), (List.replicate n 46).foldl (levStep marks) p = (p.1, p.2 + n)
  | 0, p => rfl
  | n + 1, p => by
    rw [List.replicate_succ, List.foldl_cons, lev_dots marks n]
    unfold levStep
    rw [if_pos rfl]
    congr 1
    show p.2 + 1 + n = p.2 + (n + 1)
    lia
theorem lev_off {marks : List Nat} : ∀ (l : List Nat) (p : List Int × Nat), (∀ x ∈ l, x ∉ marks) → (l.foldl (levStep marks) p).1 = p.1
  | [], p, _ => rfl
  | x :: r, p, h => by
    rw [List.foldl_cons, lev_off r _ fun y hy => h y (.tail _ hy)]
    unfold levStep
    split
    · rfl
    · rw [if_neg (h x (.head _))]
theorem lev_row {base : Nat} {s : Nat} (hs : s < 5) (n : Nat) (lv : List Int) : (List.replicate (1 + n) 46 ++ [markOf base s, 10]).foldl (levStep (marksOf base)) (lv, 0) = (lv.set s (n : Int), 0) := by
  rw [List.foldl_append, lev_dots, List.foldl_cons, List.foldl_cons, List.foldl_nil]
  have h1 : markOf base s ≠ 46 := by rw [markOf_eq]; lia
  have h2 : 10 ∉ marksOf base := fun h => by have := mark_inv h; lia
  have e1 : levStep (marksOf base) (lv, 0 + (1 + n)) (markOf base s) = (lv.set s (n : Int), 0) := by
    unfold levStep
    rw [if_neg h1, if_pos (mark_mem hs), mark_idx hs]
    show (lv.set s (((0 + (1 + n) : Nat) : Int) - 1), 0) = _
    rw [show (((0 + (1 + n) : Nat) : Int) - 1) = (n : Int) by lia]
  show levStep (marksOf base) (levStep (marksOf base) (lv, 0 + (1 + n)) (markOf base s)) 10 = _
  rw [e1]
  unfold levStep
  rw [if_neg (by decide), if_neg h2]
theorem lev_rows {base : Nat} (v : List Nat) (turn : Nat) : ∀ (l : List Nat) (lv : List Int),
    ((l.map fun i => List.replicate (1 + v.getD ((turn + i) % 5) 0) 46 ++ [markOf base ((turn + i) % 5), 10]).flatten).foldl (levStep (marksOf base)) (lv, 0) = (l.foldl (fun lv i => lv.set ((turn + i) % 5) ((v.getD ((turn + i) % 5) 0 : Nat) : Int)) lv, 0)
  | [], lv => rfl
  | k :: l, lv => by
    rw [List.map_cons, List.flatten_cons, List.foldl_append, lev_row (Nat.mod_lt _ (by decide)), lev_rows v turn l, List.foldl_cons]
theorem all_set (v : List Nat) (hv : v.length = 5) (turn : Nat) : (List.range 5).foldl (fun lv i => lv.set ((turn + i) % 5) ((v.getD ((turn + i) % 5) 0 : Nat) : Int)) [0, 0, 0, 0, 0] = v.map fun (n : Nat) => (n : Int) := by
  match v, hv with
  | [a, b, c, d, e], _ =>
    have h : turn % 5 < 5 := Nat.mod_lt _ (by decide)
    have em : ∀ i, (turn + i) % 5 = (turn % 5 + i) % 5 := fun i => by lia
    simp only [em]
    generalize turn % 5 = k at h
    revert k
    refine lt5 ?_ ?_ ?_ ?_ ?_ <;> rfl
theorem tail_nums {base turn draw x : Nat} (h : x ∈ numbersT 0 (tailM turn draw)) : x ∉ marksOf base := by
  have hb := besN_ok (draw + turn)
  have key : x % 64 ≠ 13 ∨ x < 64 := by
    unfold tailM at h
    generalize besN (draw + turn) = b at h
    rw [List.append_assoc, List.append_assoc, List.append_assoc] at h
    have e : numbersT 0 ([13, 10, 46, 46, 13, 10] ++ (List.replicate (2 + turn) 46 ++ ([b] ++ ([46] ++ if (draw / 16 + turn) % 4 = 0 then [] else [13, 10])))) = [13, 10, 46, 46, 13, 10] ++ (List.replicate (2 + turn) 46 ++ numbersT 0 ([b] ++ ([46] ++ if (draw / 16 + turn) % 4 = 0 then [] else [13, 10]))) := by
      rw [← num_dots]; rfl
    rw [e] at h
    rcases List.mem_append.mp h with h | h
    · simp at h; lia
    · rcases List.mem_append.mp h with h | h
      · have := List.eq_of_mem_replicate h; lia
      · have e2 : ∀ w : List Nat, numbersT 0 ([b] ++ ([46] ++ w)) = if b / 64 % 2 = 1 then ((b % 64) * 64 + 46) :: numbersT 0 w else (b % 64) :: 46 :: numbersT 0 w := fun w => by
          show (if b / 64 % 2 = 1 then numbersT (0 * 64 + b % 64) (46 :: w) else (0 * 64 + b % 64) :: numbersT 0 (46 :: w)) = _
          simp only [Nat.zero_mul, Nat.zero_add]
          rfl
        rw [e2] at h
        have e3 : ∀ y ∈ numbersT 0 (if (draw / 16 + turn) % 4 = 0 then [] else [13, 10]), y = 13 ∨ y = 10 := fun y hy => by
          split at hy
          · simp [numbersT] at hy
          · simpa [numbersT] using hy
        split at h
        · rcases List.mem_cons.mp h with h | h
          · lia
          · have := e3 x h; lia
        · rcases List.mem_cons.mp h with h | h
          · lia
          · rcases List.mem_cons.mp h with h | h
            · lia
            · have := e3 x h; lia
  intro hm
  have := mark_inv hm
  lia
theorem levels_out {base : Nat} (hb : base ≤ 21) {v : List Nat} (hv : v.length = 5) (turn draw : Nat) : (levT (marksOf base) (numbersT 0 (mailM v (lettersOf base) turn draw))).1 = v.map fun (n : Nat) => (n : Int) := by
  unfold levT mailM rowsM
  rw [num_rows hb, List.foldl_append, lev_rows, lev_off _ _ fun x hx => tail_nums hx]
  exact all_set v hv turn
/-! books -/
theorem valT_app (n : Nat) : ∀ (a b : List Nat), valT n (a ++ b) = valT n a + 2 ^ (n * a.length) * valT n b
  | [], b => by simp [valT]
  | x :: a, b => by
    show x + 2 ^ n * valT n (a ++ b) = x + 2 ^ n * valT n a + _
    rw [valT_app n a b, Nat.mul_add, List.length_cons, Nat.mul_add, Nat.mul_one, Nat.pow_add, Nat.mul_comm (2 ^ (n * a.length)) (2 ^ n), ← Nat.mul_assoc, Nat.add_assoc]
theorem valT_lt {n : Nat} : ∀ {a : List Nat}, (∀ x ∈ a, x < 2 ^ n) → valT n a < 2 ^ (n * a.length)
  | [], _ => by simp [valT]
  | x :: a, h => by
    have h1 := h x (.head _)
    have h2 := valT_lt (a := a) fun y hy => h y (.tail _ hy)
    show x + 2 ^ n * valT n a < _
    rw [List.length_cons, Nat.mul_add, Nat.mul_one, Nat.pow_add, Nat.mul_comm (2 ^ (n * a.length)) (2 ^ n)]
    calc x + 2 ^ n * valT n a < 2 ^ n + 2 ^ n * valT n a := by lia
      _ = 2 ^ n * (valT n a + 1) := by rw [Nat.mul_add, Nat.mul_one, Nat.add_comm]
      _ ≤ 2 ^ n * 2 ^ (n * a.length) := Nat.mul_le_mul_left _ h2
theorem valT_div {n : Nat} {a b : List Nat} (h : ∀ x ∈ a, x < 2 ^ n) : valT n (a ++ b) / 2 ^ (n * a.length) = valT n b := by
  rw [valT_app, Nat.add_mul_div_left _ _ (Nat.pow_pos (by decide)), Nat.div_eq_of_lt (valT_lt h), Nat.zero_add]
theorem valT_mod {n : Nat} {a b : List Nat} (h : ∀ x ∈ a, x < 2 ^ n) : valT n (a ++ b) % 2 ^ (n * a.length) = valT n a := by
  rw [valT_app, Nat.add_mul_mod_self_left, Nat.mod_eq_of_lt (valT_lt h)]
theorem valT_get {n : Nat} {a : List Nat} (h : ∀ x ∈ a, x < 2 ^ n) {i : Nat} (hi : i < a.length) : valT n a / 2 ^ (n * i) % 2 ^ n = a.getD i 0 := by
  have e := List.take_append_drop i a
  have hl : (a.take i).length = i := by rw [List.length_take]; lia
  have h1 := valT_div (n := n) (a := a.take i) (b := a.drop i) fun x hx => h x (List.mem_of_mem_take hx)
  rw [e, hl] at h1
  rw [h1, List.drop_eq_getElem_cons hi]
  have hx := h _ (List.getElem_mem hi)
  show (a[i] + 2 ^ n * valT n (a.drop (i + 1))) % 2 ^ n = _
  rw [Nat.add_mul_mod_self_left, Nat.mod_eq_of_lt hx, List.getD_eq_getElem?_getD, List.getElem?_eq_getElem hi]; rfl
theorem digits_val {n : Nat} (hn : 0 < n) {a : List Nat} {t : Nat} (h : ∀ x ∈ a ++ [t], x < 2 ^ n) (ht : 0 < t) : digitsT (valT n (a ++ [t])) n = a ++ [t] := by
  have hlt := valT_lt h
  have hge : 2 ^ (n * a.length) ≤ valT n (a ++ [t]) := by
    rw [valT_app]
    show _ ≤ _ + 2 ^ (n * a.length) * (t + 2 ^ n * 0)
    calc 2 ^ (n * a.length) = 2 ^ (n * a.length) * 1 := (Nat.mul_one _).symm
      _ ≤ 2 ^ (n * a.length) * (t + 2 ^ n * 0) := Nat.mul_le_mul_left _ (by lia)
      _ ≤ _ := Nat.le_add_left ..
  have h0 : valT n (a ++ [t]) ≠ 0 := by have := Nat.pow_pos (n := n * a.length) (show 0 < 2 by decide); lia
  have l1 := (Nat.log2_lt h0).mpr hlt
  have l2 : n * a.length ≤ (valT n (a ++ [t])).log2 := (Nat.le_log2 h0).mpr hge
  rw [List.length_append, List.length_singleton] at l1
  have hk : ((valT n (a ++ [t])).log2 + 1 + n - 1) / n = a.length + 1 := by
    rw [show (valT n (a ++ [t])).log2 + 1 + n - 1 = (valT n (a ++ [t])).log2 + n by lia, Nat.add_div_right _ hn]
    congr 1
    refine Nat.div_eq_of_lt_le ?_ ?_
    · rw [Nat.mul_comm]; exact l2
    · rw [Nat.mul_comm]; exact l1
  unfold digitsT
  rw [if_neg h0, hk]
  apply List.ext_getElem
  · simp
  · intro i h1 h2
    rw [List.length_map, List.length_range] at h1
    rw [List.getElem_map, List.getElem_range, valT_get h (by simpa using h1), List.getD_eq_getElem?_getD, List.getElem?_eq_getElem h2]; rfl
/-- a book's figures -/
noncomputable abbrev figs (base : Nat) (ts : List Nat) : List Nat := ts.map fun t => 33 + base + t
noncomputable def bookN (base : Nat) (ts : List Nat) : Nat := valT 6 (13 :: (figs base ts).reverse)
theorem figs_lt {base : Nat} (hb : base ≤ 21) {ts : List Nat} (ht : ∀ t ∈ ts, t < 5) : ∀ x ∈ figs base ts, x < 2 ^ 6 := fun x hx => by
  obtain ⟨t, h, rfl⟩ := List.mem_map.mp hx
  have := ht t h; lia
theorem figs_rev {base : Nat} (hb : base ≤ 21) {ts : List Nat} (ht : ∀ t ∈ ts, t < 5) : ∀ x ∈ 13 :: (figs base ts).reverse, x < 2 ^ 6 := fun x hx => by
  rcases List.mem_cons.mp hx with h | h
  · lia
  · exact figs_lt hb ht x (List.mem_reverse.mp h)
theorem digits_book {base : Nat} (hb : base ≤ 21) {ts : List Nat} (ht : ∀ t ∈ ts, t < 5) : digitsT (bookN base ts) 6 = 13 :: (figs base ts).reverse := by
  cases ts with
  | nil => show digitsT 13 6 = [13]; decide
  | cons t ts =>
    have e : 13 :: (figs base (t :: ts)).reverse = (13 :: (figs base ts).reverse) ++ [33 + base + t] := by simp
    unfold bookN
    have := figs_rev hb ht
    rw [e] at this ⊢
    exact digits_val (by decide) this (by lia)
theorem num_go : ∀ (ls : List Nat) (v : Nat) (r : List Nat), (∀ l ∈ ls, l / 64 % 2 = 1) → numbersT v (ls ++ 13 :: r) = (ls.foldl (fun v l => v * 64 + l % 64) v * 64 + 13) :: numbersT 0 r
  | [], v, r, _ => rfl
  | l :: ls, v, r, h => by
    show (if l / 64 % 2 = 1 then numbersT (v * 64 + l % 64) (ls ++ 13 :: r) else _) = _
    rw [if_pos (h l (.head _)), num_go ls _ r fun x hx => h x (.tail _ hx)]; rfl
theorem num_open : ∀ (ls : List Nat) (v : Nat), (∀ l ∈ ls, l / 64 % 2 = 1) → numbersT v ls = []
  | [], v, _ => rfl
  | l :: ls, v, h => by
    show (if l / 64 % 2 = 1 then numbersT (v * 64 + l % 64) ls else _) = _
    rw [if_pos (h l (.head _))]; exact num_open ls _ fun x hx => h x (.tail _ hx)
theorem fold_val : ∀ (ds : List Nat) (w : Nat), ds.foldl (fun v d => v * 64 + d) w = valT 6 ds.reverse + 2 ^ (6 * ds.length) * w
  | [], w => by simp [valT]
  | d :: ds, w => by
    rw [List.foldl_cons, fold_val ds, List.reverse_cons, valT_app, List.length_reverse, List.length_cons, show 6 * (ds.length + 1) = 6 * ds.length + 6 by lia, Nat.pow_add]
    generalize 2 ^ (6 * ds.length) = X
    show _ + X * (w * 64 + d) = _ + X * (d + 2 ^ 6 * 0) + X * 2 ^ 6 * w
    rw [Nat.add_assoc, Nat.mul_assoc, ← Nat.mul_add]
    congr 2
    lia
noncomputable abbrev names (base : Nat) (ts : List Nat) : List Nat := ts.map fun t => 97 + base + t
theorem names_bit {base : Nat} (hb : base ≤ 21) {ts : List Nat} (ht : ∀ t ∈ ts, t < 5) : ∀ l ∈ names base ts, l / 64 % 2 = 1 := fun l hl => by
  obtain ⟨t, h, rfl⟩ := List.mem_map.mp hl
  have := ht t h; lia
theorem num_book {base : Nat} (hb : base ≤ 21) {ts : List Nat} (ht : ∀ t ∈ ts, t < 5) (code : Nat) : numbersT 0 (names base ts ++ [13] ++ [code] ++ [46]) = bookN base ts :: (if code / 64 % 2 = 1 then [code % 64 * 64 + 46] else [code % 64, 46]) := by
  have e : names base ts ++ [13] ++ [code] ++ [46] = names base ts ++ 13 :: [code, 46] := by simp
  rw [e, num_go _ _ _ (names_bit hb ht)]
  have e1 : (names base ts).foldl (fun v l => v * 64 + l % 64) 0 = (figs base ts).foldl (fun v d => v * 64 + d) 0 := by
    rw [List.foldl_map, List.foldl_map]
    have : ∀ (l : List Nat) (v : Nat), (∀ t ∈ l, t < 5) → l.foldl (fun v t => v * 64 + (97 + base + t) % 64) v = l.foldl (fun v t => v * 64 + (33 + base + t)) v := by
      intro l
      induction l with
      | nil => intro _ _; rfl
      | cons x r ih =>
        intro v h
        rw [List.foldl_cons, List.foldl_cons, ih _ fun y hy => h y (.tail _ hy)]
        have := h x (.head _)
        rw [show (97 + base + x) % 64 = 33 + base + x by lia]
    exact this ts 0 ht
  rw [e1, fold_val]
  simp only [Nat.mul_zero, Nat.add_zero]
  have e2 : valT 6 (figs base ts).reverse * 64 + 13 = bookN base ts := by
    unfold bookN
    show _ = 13 + 2 ^ 6 * valT 6 (figs base ts).reverse
    lia
  rw [e2]
  congr 1
  show (if code / 64 % 2 = 1 then numbersT (0 * 64 + code % 64) [46] else (0 * 64 + code % 64) :: numbersT 0 [46]) = _
  simp only [Nat.zero_mul, Nat.zero_add]
  rfl
theorem hidI_b1 (d : Int) : b1 (hidI d).toNat = true := by
  have h0 : 0 ≤ d.fmod 27 ∧ d.fmod 27 < 27 := by
    rw [Int.fmod_eq_emod_of_nonneg _ (by lia)]; lia
  unfold hidI
  generalize d.fmod 27 = k at h0
  have : ∀ k : Fin 27, b1 (if (k.1 : Int) < 11 then hidCodes.getD (k.1 : Int).toNat 0 else 65013 + (k.1 : Int)).toNat = true := by decide
  have := this ⟨k.toNat, by lia⟩
  rw [show ((⟨k.toNat, by lia⟩ : Fin 27).1 : Int) = k by show ((k.toNat : Nat) : Int) = k; lia] at this
  exact this
theorem book_kept {base : Nat} (hb : base ≤ 21) {ts : List Nat} (ht : ∀ t ∈ ts, t < 5) (heap site : Int) : keep (bookT (lettersOf base) (ts.map fun (n : Nat) => (n : Int)) heap site) = names base ts := by
  have es : bookSigns (lettersOf base) (ts.map fun (n : Nat) => (n : Int)) = (names base ts).map fun x => [x] := by
    unfold bookSigns
    rw [List.map_map, List.map_map]
    refine List.map_congr_left fun t h => ?_
    show [(lettersOf base).getD ((t : Int).toNat) 0] = [97 + base + t]
    rw [Int.toNat_natCast, letters_get (ht t h)]
  unfold bookT
  rw [es]
  have fl : ∀ l : List Nat, (l.map fun x => [x]).flatten = l := fun l => by
    induction l with
    | nil => rfl
    | cons x r ih => rw [List.map_cons, List.flatten_cons, ih]; rfl
  have hk : ∀ l : List Nat, (∀ x ∈ l, x ∈ names base ts) → keep l = l := fun l h => keep_all fun x hx => by
    obtain ⟨t, hT, rfl⟩ := List.mem_map.mp (h x hx)
    refine ((lettersOk hb).ok _ ?_).2
    exact List.mem_map.mpr ⟨t, List.mem_range.mpr (ht t hT), rfl⟩
  rw [List.flatten_append, List.flatten_append, ← List.map_take, ← List.map_drop, fl, fl, keep_app, keep_app, hk _ fun x hx => List.mem_of_mem_take hx, hk _ fun x hx => List.mem_of_mem_drop hx]
  have : keep [[(hidI (heap.fdiv (10 ^ 5) + site)).toNat]].flatten = [] := by
    show keep [(hidI (heap.fdiv (10 ^ 5) + site)).toNat] = []
    simp [keep, hidI_b1]
  rw [this, List.append_nil, List.take_append_drop]
/-- a book, cut where the dots tell -/
noncomputable def backN (base : Nat) (ts : List Nat) (u : Nat) : Nat := valT 6 (13 :: ((figs base ts).drop u).reverse)
theorem book_cut {base : Nat} (hb : base ≤ 21) {ts : List Nat} (ht : ∀ t ∈ ts, t < 5) {u : Nat} (hu : u ≤ ts.length) :
    bookN base ts / 64 ^ (ts.length - u + 1) = valT 6 ((figs base ts).take u).reverse ∧ bookN base ts % 64 ^ (ts.length - u + 1) = backN base ts u := by
  have e : 13 :: (figs base ts).reverse = (13 :: ((figs base ts).drop u).reverse) ++ ((figs base ts).take u).reverse := by
    rw [List.cons_append, ← List.reverse_append, List.take_append_drop]
  have hl : (13 :: ((figs base ts).drop u).reverse).length = ts.length - u + 1 := by simp
  have hlt : ∀ x ∈ 13 :: ((figs base ts).drop u).reverse, x < 2 ^ 6 := fun x hx => by
    refine figs_rev hb ht x ?_
    rcases List.mem_cons.mp hx with h | h
    · rw [h]; exact .head _
    · exact .tail _ (List.mem_reverse.mpr (List.mem_of_mem_drop (List.mem_reverse.mp h)))
  have h1 := valT_div (n := 6) (a := 13 :: ((figs base ts).drop u).reverse) (b := ((figs base ts).take u).reverse) hlt
  have h2 := valT_mod (n := 6) (a := 13 :: ((figs base ts).drop u).reverse) (b := ((figs base ts).take u).reverse) hlt
  have e64 : (64 : Nat) ^ (ts.length - u + 1) = 2 ^ (6 * (ts.length - u + 1)) := by rw [Nat.pow_mul]
  rw [← e, hl, ← e64] at h1 h2
  exact ⟨h1, h2⟩
theorem back_top {base : Nat} (hb : base ≤ 21) {ts : List Nat} (ht : ∀ t ∈ ts, t < 5) {u : Nat} (hu : u ≤ ts.length) :
    backN base ts u / 64 ^ (ts.length - u) = if u < ts.length then 33 + base + ts.getD u 0 else 13 := by
  have e64 : (64 : Nat) ^ (ts.length - u) = 2 ^ (6 * (ts.length - u)) := by rw [Nat.pow_mul]
  split
  · rename_i h
    have hd : (figs base ts).drop u = (33 + base + ts.getD u 0) :: (figs base ts).drop (u + 1) := by
      rw [List.drop_eq_getElem_cons (by simpa using h)]
      simp [List.getD_eq_getElem?_getD, h]
    have hl : (13 :: ((figs base ts).drop (u + 1)).reverse).length = ts.length - u := by simp; lia
    have hlt : ∀ x ∈ 13 :: ((figs base ts).drop (u + 1)).reverse, x < 2 ^ 6 := fun x hx => by
      refine figs_rev hb ht x ?_
      rcases List.mem_cons.mp hx with h | h
      · rw [h]; exact .head _
      · exact .tail _ (List.mem_reverse.mpr (List.mem_of_mem_drop (List.mem_reverse.mp h)))
    unfold backN
    rw [hd, List.reverse_cons, ← List.cons_append, e64, ← hl, valT_div hlt]
    rfl
  · rename_i h
    have : ts.length - u = 0 := by lia
    have hd : (figs base ts).drop u = [] := List.drop_of_length_le (by simp; lia)
    unfold backN
    rw [this, hd]; rfl
theorem book_lt {base : Nat} (hb : base ≤ 21) {ts : List Nat} (ht : ∀ t ∈ ts, t < 5) (h3 : ts.length ≤ 3) : bookN base ts < 2 ^ 24 := by
  have := valT_lt (figs_rev hb ht)
  rw [List.length_cons, List.length_reverse, List.length_map] at this
  refine Nat.lt_of_lt_of_le this (Nat.pow_le_pow_right (by decide) (by lia))
end
set_option maxHeartbeats 0
open PySem PySem.W PySem.Spec PySem.Calls PyProof.Rows
local macro_rules | `(tactic| walk_at "rk") => `(tactic| first
  | ((refine Cx.Is.kind (by assumption) ?_); rfl)
  | ((refine comp_kind ?_ (by decide)); rfl))
local macro_rules | `(tactic| walk_at "rs") => `(tactic| first
  | ((refine Cx.Is.loc (by assumption) ?_); rfl)
  | ((refine Cx.Is.cel (by assumption) ?_); rfl))
local macro_rules | `(tactic| walk_at "rh") => `(tactic| first | exact Holds.own rfl | exact Holds.frz rfl | exact Holds.brw rfl)
local macro_rules | `(tactic| walk_at "rq") => do
  let ga ← alts (fun x => `(tactic| (with_reducible refine $x ?_))) "SQ.nx ifT ifF SQ.rt SQ.bk JP.nx JP.rt JP.bk LE.nx LE.rt LE.bk ST.cons ST.nil S1.ret S1.brk EVO.list EV.tup EVs.nil EV.int EV.s_nil EV.s_dot EV.s_n EV.s_r EV.s_rn EV.s_q EV.s_rdn EV.s_rnddrn EV.str EV.bool EV.neg EV.binop BinOk.add BinOk.sub CmpOk.lt CmpOk.le CmpOk.eq CmpOk.ne CmpOk.is_bool CmpOk.isnot_bool EV.ifexp PV.none PV.some TV.and_ TV.or_"
  let gb ← alts (fun x => `(tactic| ((with_reducible refine' $x ?hc ?hx ?_ ?he ?hp); (case hc => first | exact Cx.Is.ok (by assumption) | exact Cx.Is.okp (by assumption)); (case hx => walk_at "rk"); (case he => rfl); (case hp => rfl)))) "EV.c_chr EV.c_ord EV.c_len EV.c_sum EV.c_sorted EV.f_quotedata EV.f_int2digits EV.f_digits2int EV.f_int_divmod EV.f_in_table_b1 EV.f_law_heaps EV.f_law_hidden EV.f_law_beside EV.f_law_kept EV.f_law_numbers EV.f_law_targets EV.f_law_book EV.f_law_posted EV.f_law_levels EV.f_law_rings EV.f_law_walks EV.f_divmod_pos EV.f_div2n1n"
  let gc ← alts (fun x => `(tactic| ((with_reducible refine $x ?hl ?_); rotate_left))) "BinOk.addS InOk.addS BinOk.addLst"
  let gd ← alts (fun x => `(tactic| ((with_reducible refine' $x ?hx ?_ ?h1 ?h2); (case hx => exact rfl); (case h1 => decide); (case h2 => decide)))) "EV.name EV.nameOwn"
  let ge ← alts (fun x => `(tactic| ((with_reducible refine $x ?_ ?h1 ?h2); (case h1 => decide); (case h2 => decide)))) "TV.inN TV.notInN"
  let gf ← alts (fun x => `(tactic| ((with_reducible refine' $x ?hx ?_ ?hs ?h1 ?h2); (case hx => walk_at "rh"); (case hs => exact fun _ _ => ⟨_, rfl⟩); (case h1 => decide); (case h2 => decide)))) "EV.sliceN EVO.sliceN"
  let gi ← alts (fun x => `(tactic| ((with_reducible refine' $x ?hx ?_ ?hline ?he ?h1 ?h2); (case hx => first | exact ⟨_, _, rfl⟩ | walk_at "rh"); (case hline => rfl); (case he => rfl); (case h1 => decide); (case h2 => decide)))) "EV.indexN S1.append"
  `(tactic| first
    $[| $(ga ++ gb ++ gc ++ gd ++ ge ++ gf ++ gi):tactic]*
    | ((with_reducible refine S1.assignO (e := .List _ _) ?hk ?_ ?hs); (case hk => walk_at "rs"); (case hs => rfl))
    | ((with_reducible refine S1.assignO (e := .Subscript (.Name _ _) (.Slice _ _ _ _) _) ?hk ?_ ?hs); (case hk => walk_at "rs"); (case hs => rfl))
    | ((with_reducible refine S1.assign ?hk ?_ ?hs); (case hk => walk_at "rs"); (case hs => rfl))
    | ((with_reducible refine' S1.aug ?hk ?hx ?_ ?h2); (case hk => walk_at "rs"); (case hx => exact rfl); (case h2 => decide))
    | ((with_reducible refine EVs.cons ?_ ?he); (case he => rfl))
    | ((with_reducible refine BinOk.mod ?hj ?_); (case hj => decide))
    | ((with_reducible refine' EV.itemN ?hx ?_ ?hs ?h1 ?h2); (case hx => walk_at "rh"); (case hs => (intro _ _; rfl)); (case h1 => decide); (case h2 => decide))
    | ((with_reducible refine EV.joinS ?_ ?hl ?he); (case hl => rfl); (case he => rfl))
    | ((with_reducible refine TV.cmp ?_ ?hm); (case hm => with_unfolding_all rfl)))
local macro_rules | `(tactic| walk_at "rr") => `(tactic| first
  | walk_at "rq"
  | (with_reducible refine S1.if_ ?_))
local macro_rules | `(tactic| walk_at "rf") => `(tactic| (
  (refine Fn.intro' (ps := ?ps) (scope := ?sc) (body := ?b) (qual := ?q) (params := ?pa) (ho := fun _ => rfl) (hcd := ?hcd) (hbind := ?hbind) (hlen := rfl) (hkinds := rfl) (hnp := by decide) (hnd := by decide) (hco := rfl) (hgen := rfl) (hk := rfl) (h := ?h))))
section
theorem valT_appB (n : Nat) : ∀ xs ys : List Nat, valT n (xs ++ ys) = valT n xs + 2 ^ (n * xs.length) * valT n ys
  | [], ys => by simp [valT]
  | d :: r, ys => by
    rw [List.cons_append]
    show d + 2 ^ n * valT n (r ++ ys) = (d + 2 ^ n * valT n r) + _
    rw [valT_appB n r ys, List.length_cons, Nat.mul_add n, Nat.pow_add, Nat.mul_add, Nat.mul_one]
    rw [Nat.add_assoc, ← Nat.mul_assoc, Nat.mul_comm (2 ^ n) (2 ^ (n * r.length))]
theorem valT_ltB (n : Nat) : ∀ xs : List Nat, (∀ d ∈ xs, d < 2 ^ 60) → valT n xs < 2 ^ (60 + (n + 1) * xs.length)
  | [], _ => by simp [valT]
  | d :: r, h => by
    have h1 := h d (.head _)
    have h2 := valT_ltB n r fun x hx => h x (.tail _ hx)
    unfold valT
    rw [List.length_cons]
    have e : 2 ^ (60 + (n + 1) * (r.length + 1)) = 2 ^ n * 2 ^ (60 + (n + 1) * r.length) + 2 ^ n * 2 ^ (60 + (n + 1) * r.length) := by
      rw [← Nat.mul_two, ← Nat.pow_add, ← Nat.pow_succ]; congr 1; rw [Nat.mul_add, Nat.mul_one]; lia
    rw [e]
    have h3 : 2 ^ n * valT n r ≤ 2 ^ n * 2 ^ (60 + (n + 1) * r.length) := Nat.mul_le_mul_left _ (Nat.le_of_lt h2)
    have h4 : 2 ^ 60 ≤ 2 ^ n * 2 ^ (60 + (n + 1) * r.length) := by rw [← Nat.pow_add]; exact Nat.pow_le_pow_right (by decide) (by lia)
    lia
theorem valT_cut (n : Nat) (ds : List Nat) (L M R : Nat) (h1 : L ≤ M) (h2 : M ≤ R) (h3 : R ≤ ds.length) :
    valT n ((ds.drop M).take (R - M)) * 2 ^ ((M - L) * n) + valT n ((ds.drop L).take (M - L)) = valT n ((ds.drop L).take (R - L)) := by
  have e : (ds.drop L).take (R - L) = (ds.drop L).take (M - L) ++ (ds.drop M).take (R - M) := by
    have e1 : R - L = (M - L) + (R - M) := by lia
    rw [e1, List.take_add, List.drop_drop, show L + (M - L) = M by lia]
  rw [e, valT_appB, List.length_take, List.length_drop, Nat.min_eq_left (by lia), Nat.mul_comm n, Nat.mul_comm, Nat.add_comm]
section
variable {c : Cx} {P : V → Prop} {i j : Int}
theorem BinOk.lshB {k : Nat} (hn : 0 ≤ j) (hn2 : j ≤ 1000000) (hk : k ≤ 1000000) (ha : i.natAbs < 2 ^ k) (h : P (.int (i * 2 ^ j.toNat))) : BinOk c .LShift (.int i) (.int j) P :=
  .ofInt h fun _ _ _ _ _ => lshift_int hn (by have := intBits_le ha; lia)
end
theorem vr_int {i : Int} : ∀ P P' v, VR P (.int i) v → VR P' (.int i) v := fun _ _ _ h => by unfold VR at h ⊢; exact h
theorem fdiv2 (a : Nat) : ((a : Int)).fdiv (2 ^ ((1 : Int)).toNat) = ((a / 2 : Nat) : Int) := by
  rw [show ((2 : Int) ^ ((1 : Int)).toNat) = ((2 : Nat) : Int) from rfl, fdiv_nat]
/-- the inner def of _digits2int -/
theorem inner2_fn {kp : List (Addr × Obj)} {B : Heap} {f c' cdD cdI cdN : Addr} {cl : List (Str × Addr)} {doc pm ctv vD : Value} {oc oD oI oN : Obj} {cvs : Array Value} {ct tN : Tok} (ds : List Nat) (n : Nat) (hn : n ≤ 64) (hd : ∀ d ∈ ds, d < 2 ^ 60) (hl : ds.length ≤ 64)
    (ho : (f, fnMade (.ofString "inner") (.ofString "_digits2int.<locals>.inner") ia76 ib76 is76 cl doc pm c' ctv) ∈ kp) (hoc : (c', oc) ∈ kp) (hocd : oc.data = .fields cvs) (hocq : cvs[1]? = some (.str (.ofString "_digits2int.<locals>.inner") ct))
    (hcl : cl = [(.ofString "n", cdN), (.ofString "inner", cdI), (.ofString "digits", cdD)]) (hne : cdN ≠ cdI ∧ cdN ≠ cdD ∧ cdI ≠ cdD)
    (hD : (cdD, oD) ∈ kp) (hDd : oD.data = .cell (some vD)) (hDv : ∀ z, (∀ p ∈ kp, p ∈ z) → VR (PP B z) (.lst (ivs (ns ds))) vD) (hI : (cdI, oI) ∈ kp) (hId : oI.data = .cell (some (.ref f))) (hN : (cdN, oN) ∈ kp) (hNd : oN.data = .cell (some (.int (n : Nat) tN))) :
    ∀ k L R : Nat, L < R → R ≤ ds.length → R - L ≤ 2 ^ k → FnC kp B f (k + 1) [.int L, .int R] (.int (valT n ((ds.drop L).take (R - L)) : Nat)) none none := by
  have key : ∀ (k L R : Nat) (rv : V), (∀ c : Cx, c.Is is76 k → c.keep = kp → c.base = B → ST c ib76 [(.ofString "L", .frz (.int L)), (.ofString "R", .frz (.int R)), (.ofString "digits", .frz (.lst (ivs (ns ds)))), (.ofString "n", .frz (.int (n : Nat))), (.ofString "inner", .raw (.ref f))] fun o σ' => o = .ret rv) → FnC kp B f (k + 1) [.int L, .int R] rv none none := by
    intro k L R rv h
    refine FnC.intro (ps := [.ofString "L", .ofString "R"]) (τ := [(.ofString "digits", .frz (.lst (ivs (ns ds)))), (.ofString "n", .frz (.int (n : Nat))), (.ofString "inner", .raw (.ref f))]) ho hoc hocd hocq (lensS rfl fun v => lens1 rfl fun u => rfl) rfl rfl (by decide) (by decide) rfl rfl rfl ?hcl ?hinj ?hτ ?hone fun c C hk hB => (h c C hk hB).mono fun o σ' e => ⟨.inl e, fun _ _ e => nomatch e⟩
    case hcl =>
      intro x cd h
      rw [hcl] at h
      have hm := lookup_mem' h
      simp only [List.mem_cons, List.not_mem_nil, or_false, Prod.mk.injEq] at hm
      rcases hm with ⟨_, rfl⟩ | ⟨_, rfl⟩ | ⟨_, rfl⟩
      · exact ⟨_, _, hN, hNd⟩
      · exact ⟨_, _, hI, hId⟩
      · exact ⟨_, _, hD, hDd⟩
    case hinj =>
      intro x y cd h h'
      rw [hcl] at h h'
      have hm := lookup_mem' h
      have hm' := lookup_mem' h'
      simp only [List.mem_cons, List.not_mem_nil, or_false, Prod.mk.injEq] at hm hm'
      obtain ⟨n1, n2, n3⟩ := hne
      rcases hm with ⟨rfl, rfl⟩ | ⟨rfl, rfl⟩ | ⟨rfl, rfl⟩ <;> rcases hm' with ⟨e1, e2⟩ | ⟨e1, e2⟩ | ⟨e1, e2⟩ <;>
        first
        | exact e1.symm
        | exact absurd e2 (by assumption)
        | exact absurd e2.symm (by assumption)
    case hτ =>
      intro z hz x l h
      have hm := lookup_mem' h
      simp only [List.mem_cons, List.not_mem_nil, or_false, Prod.mk.injEq] at hm
      rcases hm with ⟨rfl, rfl⟩ | ⟨rfl, rfl⟩ | ⟨rfl, rfl⟩
      · exact ⟨cdD, oD, vD, rfl, by rw [hcl]; rfl, hD, hDd, hDv z hz⟩
      · exact ⟨cdN, oN, _, rfl, by rw [hcl]; rfl, hN, hNd, by show VR _ _ _; unfold VR; exact ⟨_, rfl⟩⟩
      · exact ⟨cdI, oI, _, rfl, by rw [hcl]; rfl, hI, hId, rfl⟩
    case hone =>
      intro x y b xs ys h
      have hm := lookup_mem' h
      simp only [List.mem_cons, List.not_mem_nil, or_false, Prod.mk.injEq, reduceCtorEq, and_false] at hm
  have leaf : ∀ (k L R : Nat), L + 1 = R → R ≤ ds.length → FnC kp B f (k + 1) [.int L, .int R] (.int (valT n ((ds.drop L).take (R - L)) : Nat)) none none := by
    intro k L R h1 h2
    refine key k L R _ fun c C hk hB => ?_
    repeat walk_at "rr"
    rw [show ((L : Int) + 1 == (R : Int)) = true from by rw [beq_iff_eq]; lia]
    repeat walk_at "rr"
    have hL : L < ds.length := by lia
    refine ⟨_, _, rfl, rfl, ?_, nth_ns rfl hL, ?_⟩
    · simp; lia
    · repeat walk_at "rr"
      have e : (ds.drop L).take (R - L) = [ds.getD L 0] := by
        rw [show R - L = 1 by lia, List.drop_eq_getElem_cons hL, List.getD_eq_getElem?_getD, List.getElem?_eq_getElem hL]
        rfl
      rw [e]
      simp [valT]
  intro k
  induction k with
  | zero =>
    intro L R h1 h2 h3
    exact leaf 0 L R (by lia) h2
  | succ k ih =>
    intro L R h1 h2 h3
    by_cases h4 : L + 1 = R
    · exact leaf (k + 1) L R h4 h2
    refine key (k + 1) L R _ fun c C hk hB => ?_
    repeat walk_at "rr"
    rw [show ((L : Int) + 1 == (R : Int)) = false from by rw [beq_eq_false_iff_ne]; lia]
    repeat walk_at "rr"
    refine BinOk.rsh (by decide) ?_
    rw [show ((L : Int) + (R : Int)).fdiv (2 ^ ((1 : Int)).toNat) = (((L + R) / 2 : Nat) : Int) from by rw [← fdiv2]; simp]
    generalize hM : (L + R) / 2 = M
    repeat walk_at "rr"
    refine BinOk.mulR (by lia) ?_
    rw [show ((M : Int) - (L : Int)) * (n : Int) = (((M - L) * n : Nat) : Int) from by rw [Int.natCast_mul, Int.ofNat_sub (by lia)]]
    repeat walk_at "rr"
    have call : ∀ {σ : Sto} {L1 R1 : Nat} {Post : V → Sto → Prop}, L1 < R1 → R1 ≤ ds.length → R1 - L1 ≤ 2 ^ k → Post (.int (valT n ((ds.drop L1).take (R1 - L1)) : Nat)) σ →
        ∀ hid z s m own, AtX c hid z c.env σ s m own → ∃ kp rv lo lo' σ', FnC kp c.base f (k + 1) [.int L1, .int R1] rv lo lo' ∧ (∀ p ∈ kp, (p ∈ own ∧ ∃ v, p.2.data = .cell v) ∨ p ∈ z) ∧
      ((lo = none ∧ lo' = none ∧ σ' = σ) ∨ (∃ x b xs xs', lo = some (b, xs) ∧ lo' = some (b, xs') ∧ sget σ x = some (.own b xs) ∧ σ' = sput σ x (.own b xs'))) ∧
      (∀ P P' v, VR P rv v → VR P' rv v) ∧ (∀ b xs P P' us, lo' = some (b, xs) → VRs P xs us → VRs P' xs us) ∧ Post rv σ' := fun {σ L1 R1 Post} q1 q2 q3 hP hid z s m own X =>
      ⟨kp, _, none, none, σ, by rw [hB]; exact ih L1 R1 q1 q2 q3, fun p hp => .inr (X.x8.2.kept p (by rw [hk]; exact hp)), .inl ⟨rfl, rfl, rfl⟩, vr_int, fun _ _ _ _ _ e => (nomatch e), hP⟩
    have hfk : ∃ fo fd, (f, fo) ∈ c.keep ∧ fo.data = Data.func fd := ⟨_, _, by rw [hk]; exact ho, rfl⟩
    refine EV.callC C.ok rfl hfk ?_
    repeat walk_at "rr"
    refine call (by lia) h2 (by rw [Nat.pow_succ] at h3; lia) ?_
    repeat walk_at "rr"
    have hv := valT_ltB n ((ds.drop M).take (R - M)) fun d hd' => hd d (List.mem_of_mem_drop (List.mem_of_mem_take hd'))
    refine BinOk.lshB (k := 5000) (by lia) ?_ (by decide) ?_ ?_
    · have : (M - L) * n ≤ 64 * 64 := Nat.mul_le_mul (by lia) hn
      lia
    · rw [Int.natAbs_natCast]
      refine Nat.lt_of_lt_of_le hv (Nat.pow_le_pow_right (by decide) ?_)
      rw [List.length_take, List.length_drop, Nat.min_eq_left (by lia)]
      have : (n + 1) * (R - M) ≤ 65 * 64 := Nat.mul_le_mul (by lia) (by lia)
      lia
    · refine EV.callC C.ok rfl hfk ?_
      repeat walk_at "rr"
      refine call (by lia) (by lia) (by rw [Nat.pow_succ] at h3; lia) ?_
      repeat walk_at "rr"
      rw [← valT_cut n ds L M R (by lia) (by lia) h2, Int.toNat_natCast]
      simp
end
section
section
variable {c : Cx} {env : Env} {z z' hid own : List (Addr × Obj)} {σ σ' : Sto} {s s' s₁ : Shared} {x : Str} {v : Value} {E : Value → Shared → Prop} {e l r : Expr} {pos p p' spos : Pos} {n : Nat} {Q : Out → Sto → Prop} {m : Pin} {sc : Scope}
noncomputable abbrev NoCells (kp : List (Addr × Obj)) : Prop := ∀ p ∈ kp, ∀ v, p.2.data ≠ Data.cell v
theorem At.unkeep {kp : List (Addr × Obj)} (H : At { c with keep := kp } hid z c.env σ s) (h : c.keep = []) (hk : NoCells kp) : At c hid z c.env σ s := by
  obtain ⟨m, own, F, N, S1, S2, k, V, U, C⟩ := H
  refine ⟨m, own, F, N, S1, S2, ⟨⟨k.gok.turn, k.gok.below, k.gok.dicts, k.gok.same⟩, k.kind, k.globals, k.builtins, k.pin⟩, V, U, fun e => ⟨fun x cd hx => ?_, (C.1 e).2⟩, C.2.keep fun p hp => by rw [h] at hp; cases hp⟩
  obtain ⟨o, v₀, a, d⟩ := (C.1 e).1 x cd hx
  exact ⟨o, v₀, .inl (a.elim id fun a => absurd d (hk _ a _)), d⟩
theorem cell_of (X : AtX c hid z c.env σ s m own) (hk : c.env.kindOf x = some .cell) (hn : NoCells c.keep) (h : Src c c.env m (own ++ (z ++ hid)) x v) : ∃ cd o, c.cl.lookup x = some cd ∧ (cd, o) ∈ own ∧ o.data = .cell (some v) := by
  rcases h.mine X with ⟨k', _⟩ | ⟨_, cd, o, a, b, d⟩
  · rw [hk] at k'; cases k'
  · exact ⟨cd, o, a, (List.mem_append.mp b).elim id fun b => absurd d (hn _ b _), d⟩
theorem Cx.Is.cells (C : c.Is sc n) (h : sc.names.lookup x = some .cell) : (c.cl.lookup x).isSome = true := by
  obtain ⟨k, e, _⟩ | ⟨_, e⟩ := C.cl
  · rw [e]; exact cellsFrom_some _ _ _ (.inl h)
  · exact absurd rfl (e _ (lookup_mem' h))
theorem Cx.Is.clos {isc : Scope} (C : c.Is sc n) (h : (isc.names.all fun p => p.2 != .free || sc.names.lookup p.1 == some .cell) = true) : closureFor isc c.env = pure (compCl isc.names c.cl []) :=
  clos_eq fun p hp e => by
    rw [List.all_eq_true] at h
    have := h p hp
    rw [Bool.or_eq_true, bne_iff_ne, beq_iff_eq] at this
    exact C.cells (this.elim (fun q => absurd e q) id)
theorem TV.lst {T : Bool → Sto → Prop} (h : EV c env e σ fun a σ₁ => ∃ xs, a = .lst xs ∧ xs.length < 2 ^ 62 ∧ T (!xs.isEmpty) σ₁) (he : isTrue e env (eval e env) = (do let v ← eval e env; standAt e.pos; holding [v] (truthy v)) := by rfl) : TV c env e σ T := fun hid z s H E => by
  refine isTrue_plain ?_ he
  refine wpAny_mono (h hid z s H E) (fun va s₁ hPat => ?_) fun _ _ e => e
  obtain ⟨z₁, a, σ₁, hz₁, H₁, ha, sm₁, xs, e, hl, h₁⟩ := hPat
  subst e
  unfold VR at ha
  obtain ⟨ad, vs, k, rfl, hp, hr⟩ := ha
  have hlen := hr.len
  refine wpAny_truthy_list (isL (H₁.get hp)) (by rw [List.size_toArray, hlen]; lia) ⟨z₁, σ₁, hz₁, H₁.toks, sm₁, ?_⟩
  have e : (!vs.toArray.isEmpty) = (!xs.isEmpty) := by
    cases xs with
    | nil => have : vs = [] := List.length_eq_zero_iff.mp hlen; subst this; rfl
    | cons a r => cases vs with
      | nil => simp at hlen
      | cons _ _ => rfl
  rw [e]; exact h₁
end
set_option maxHeartbeats 400000 in
theorem digits2int_fn (ds : List Nat) (n : Nat) (hn : n ≤ 64) (hd : ∀ d ∈ ds, d < 2 ^ 60) (hl : ds.length ≤ 64) : Fn (nat_lit 76) 10 [.lst (ivs (ns ds)), .int n] (.int (valT n ds)) := by
  refine Fn.intro (n := 9) (name := .ofString "_digits2int") (qual := .ofString "_digits2int") (params := a76) (body := b76) (scope := s76) (pm := .str (.ofString "cpy313._pylong") 351) (cdv := .ref (nat_lit 75)) (ps := [.ofString "digits", .ofString "n"]) (fun _ => rfl) cd_digits2int (lensS rfl fun v => lens1 rfl fun u => rfl) rfl rfl (by decide) (by decide) rfl rfl rfl fun c hp ⟨hcn, hccd⟩ hcs hcl hkeep ok => ?_
  have C : c.Is s76 9 := ⟨hp, hcs, .inl (hcl.imp fun _ e => ⟨e, hkeep⟩), ok⟩
  intro hid z s H E
  refine wpAny_execs_cons (nest_wp nest2 C.ok hccd H (C.cel rfl) (C.clos (by rfl)) ?hq rfl rfl rfl rfl rfl ?_)
  case hq =>
    unfold qualnameIn
    rw [C.kind (k := .cell) rfl]
    show c.cn ++ _ ++ _ = _
    rw [hcn]; decide
  intro f ctv doc c' oc vs t z1 s1 hz hf hc' hdd hv H1 sm
  have nc : NoCells [(f, fnMade (.ofString "inner") (.ofString "_digits2int.<locals>.inner") ia76 ib76 is76 (compCl is76.names c.cl []) doc ((c.mg "__name__").getD .none) c' ctv), (c', oc)] := fun p hp v e => by
    simp only [List.mem_cons, List.not_mem_nil, or_false] at hp
    rcases hp with rfl | rfl
    · cases e
    · rw [hdd] at e; cases e
  have H2 := H1.keepIn (kp := [(f, _), (c', oc)]) hkeep fun p hp => by
    simp only [List.mem_cons, List.not_mem_nil, or_false] at hp
    rcases hp with rfl | rfl
    · exact hf
    · exact hc'
  let c2 : Cx := { c with keep := [(f, fnMade (.ofString "inner") (.ofString "_digits2int.<locals>.inner") ia76 ib76 is76 (compCl is76.names c.cl []) doc ((c.mg "__name__").getD .none) c' ctv), (c', oc)] }
  have ok2 : c2.Ok 9 := ⟨ok.kin, ok.top, ok.code1, ok.code2, ok.fn, ok.room, ok.units⟩
  have kd : ∀ {y k}, s76.names.lookup y = some k → c2.env.kindOf y = some k := fun h => C.kind h
  have go : ∀ {σ : Sto} {Q : Out → Sto → Prop} {body : List Stmt}, At c2 hid z1 c2.env σ s1 → ST c2 body σ Q → wpAny c.M c.A (execs body c.env) (SP c hid z s Q) E s1 := fun {σ Q body} H2 h =>
    wpAny_mono (h hid z1 s1 H2 E) (fun fl s3 hPat => by obtain ⟨z3, o, σ3, a, b, d, e, g⟩ := hPat; exact ⟨z3, o, σ3, fun p hp => a p (hz p hp), b.unkeep hkeep nc, d, sm.trans e, g⟩) fun _ _ e => e
  refine go H2 ?_
  show ST c2 _ [(.ofString "digits", .frz (.lst (ivs (ns ds)))), (.ofString "n", .frz (.int (n : Nat))), (.ofString "inner", .raw (.ref f))] _
  refine ST.cons (S1.ret (EV.ifexp (TV.lst ?_)))
  repeat walk_at "rr"
  refine ⟨_, rfl, by simp; lia, ?_⟩
  cases hds : ds with
  | nil =>
    subst hds
    simp only [ivs, ns, List.map_nil, List.isEmpty_nil, Bool.not_true]
    repeat walk_at "rr"
    rfl
  | cons d0 dr =>
    rw [← hds]
    have hne : ds ≠ [] := by rw [hds]; exact List.cons_ne_nil _ _
    have hpos : 0 < ds.length := List.length_pos_iff.mpr hne
    rw [show (!(ivs (ns ds)).isEmpty) = true from by rw [hds]; rfl]
    refine ifT (EV.callC (ok2.le (by decide : 6 + 1 ≤ 9)) rfl ⟨_, _, .head _, rfl⟩ ?_)
    refine EVs.cons (EV.int ?_) rfl
    refine EVs.cons (EV.c_len ok2 (kd rfl) ?_ rfl rfl) rfl
    repeat walk_at "rr"
    refine CallOk.lenList (by simp; lia) ?_
    rw [show (ivs (ns ds)).length = ds.length from by simp]
    refine EVs.nil fun hid z s m own X => ?_
    have V := X.x6
    obtain ⟨vD, sD, rD⟩ := V (.ofString "digits") _ rfl
    obtain ⟨vN, sN, rN⟩ := V (.ofString "n") _ rfl
    have sI := V (.ofString "inner") _ rfl
    obtain ⟨cdD, oD, lD, mD, dD⟩ := cell_of X (kd rfl) nc sD
    obtain ⟨cdN, oN, lN, mN, dN⟩ := cell_of X (kd rfl) nc sN
    obtain ⟨cdI, oI, lI, mI, dI⟩ := cell_of X (kd rfl) nc sI
    have inj := (X.x8.1 rfl).2.1
    unfold VR at rN rD
    obtain ⟨tN, rfl⟩ := rN
    obtain ⟨a, us, k, rfl, pa, ra⟩ := rD
    have hx : ∃ ex : List (Addr × Obj), (∀ p ∈ ex, p ∈ z) ∧ PP c.base ex a (lobj us k) := by
      rcases pa with pa | pa
      · exact ⟨[], And.intro (fun p hp => absurd hp List.not_mem_nil) (Or.inl pa)⟩
      · exact ⟨[(a, lobj us k)], fun p hp => by rw [List.mem_singleton.mp hp]; exact pa, .inr (.head _)⟩
    obtain ⟨ex, hex, pex⟩ := hx
    have hclos : compCl is76.names c.cl [] = [(.ofString "n", cdN), (.ofString "inner", cdI), (.ofString "digits", cdD)] := by
      show [(_, (c.cl.lookup (.ofString "n")).getD 0), (_, (c.cl.lookup (.ofString "inner")).getD 0), (_, (c.cl.lookup (.ofString "digits")).getD 0)] = _
      rw [show c.cl.lookup (.ofString "n") = _ from lN, show c.cl.lookup (.ofString "inner") = _ from lI, show c.cl.lookup (.ofString "digits") = _ from lD]
      rfl
    have hF := inner2_fn (kp := (cdD, oD) :: (cdI, oI) :: (cdN, oN) :: (c2.keep ++ ex)) (B := c2.base) (f := f) (c' := c') (cdD := cdD) (cdI := cdI) (cdN := cdN) (cl := compCl is76.names c.cl []) (doc := doc) (pm := (c.mg "__name__").getD .none) (ctv := ctv) (vD := .ref a) (oc := oc) (oD := oD) (oI := oI) (oN := oN) (cvs := vs) (ct := t) (tN := tN) ds n hn hd hl
      (.tail _ (.tail _ (.tail _ (.head _)))) (.tail _ (.tail _ (.tail _ (.tail _ (.head _))))) hdd hv hclos
      ⟨fun e => absurd (inj _ _ _ lN (e ▸ lI)) (by decide), fun e => absurd (inj _ _ _ lN (e ▸ lD)) (by decide), fun e => absurd (inj _ _ _ lI (e ▸ lD)) (by decide)⟩
      (.head _) dD (fun z2 hz2 => by
        unfold VR
        refine ⟨a, us, k, rfl, pex.imp id fun h => hz2 _ (.tail _ (.tail _ (.tail _ (List.mem_append_right _ h)))), VRs.ofInts ra.toInts⟩) (.tail _ (.head _)) dI (.tail _ (.tail _ (.head _))) dN 6 0 ds.length hpos (Nat.le_refl _) (by lia)
    replace hF : FnC _ c2.base f (6 + 1) [.int 0, .int ds.length] _ none none := hF
    refine ⟨_, _, none, none, _, hF, fun p hp => ?_, .inl ⟨rfl, rfl, rfl⟩, vr_int, fun _ _ _ _ _ e => (nomatch e), ?_⟩
    · simp only [List.mem_cons, List.mem_append] at hp
      rcases hp with rfl | rfl | rfl | hp | hp
      · exact .inl ⟨mD, _, dD⟩
      · exact .inl ⟨mI, _, dI⟩
      · exact .inl ⟨mN, _, dN⟩
      · exact .inr (X.x8.2.kept _ (by first | exact hp | (simp only [List.mem_cons]; exact hp)))
      · exact .inr (hex _ hp)
    · show Out.ret (.int (valT n ((ds.drop 0).take (ds.length - 0)) : Nat)) = Out.ret _
      rw [List.drop_zero, Nat.sub_zero, List.take_length]
end
section
section
variable {c : Cx} {P : V → Prop} {i j : Int}
theorem BinOk.xor (h : P (.int (Builtin.bitXor i j))) : BinOk c .BitXor (.int i) (.int j) P := .ofInt h fun _ _ _ _ _ => xor_int
end
theorem or_high (x s : Nat) : x ||| (x / 2 ^ s * 2 ^ s) = x := by
  apply Nat.eq_of_testBit_eq
  intro i
  rw [Nat.testBit_or, Nat.mul_comm, Nat.testBit_two_pow_mul, Nat.testBit_div_two_pow]
  by_cases h : s ≤ i
  · rw [show i - s + s = i by lia]; simp [h]
  · simp [h]
theorem and_high (x s : Nat) : x &&& (x / 2 ^ s * 2 ^ s) = x / 2 ^ s * 2 ^ s := by
  apply Nat.eq_of_testBit_eq
  intro i
  rw [Nat.testBit_and, Nat.mul_comm, Nat.testBit_two_pow_mul, Nat.testBit_div_two_pow]
  by_cases h : s ≤ i
  · rw [show i - s + s = i by lia]; simp [h]
  · simp [h]
theorem xor_low (x s : Nat) : Builtin.bitXor (x : Int) ((x / 2 ^ s * 2 ^ s : Nat) : Int) = ((x % 2 ^ s : Nat) : Int) := by
  have e1 : Builtin.bitAnd (x : Int) ((x / 2 ^ s * 2 ^ s : Nat) : Int) = ((x / 2 ^ s * 2 ^ s : Nat) : Int) := by
    unfold Builtin.bitAnd
    rw [decide_eq_true (Int.natCast_nonneg x), decide_eq_true (Int.natCast_nonneg _)]
    show ((_ : Nat) : Int) = _
    rw [Int.toNat_natCast, Int.toNat_natCast, and_high]
  have e2 : Builtin.bitOr (x : Int) ((x / 2 ^ s * 2 ^ s : Nat) : Int) = (x : Int) := by
    unfold Builtin.bitOr Builtin.bitAnd Builtin.bitNot
    rw [decide_eq_false (by lia), decide_eq_false (by lia)]
    show -(-((((-(-(x : Int) - 1) - 1).toNat ||| (-(-((x / 2 ^ s * 2 ^ s : Nat) : Int) - 1) - 1).toNat : Nat) : Int)) - 1) - 1 = _
    rw [show (-(-(x : Int) - 1) - 1).toNat = x by lia, show (-(-((x / 2 ^ s * 2 ^ s : Nat) : Int) - 1) - 1).toNat = x / 2 ^ s * 2 ^ s by lia, or_high]
    lia
  unfold Builtin.bitXor
  rw [e1, e2]
  have := Nat.div_add_mod x (2 ^ s)
  rw [Nat.mul_comm] at this
  lia
theorem mod_cut (x a b k : Nat) (h : a + k ≤ b) : x % 2 ^ b / 2 ^ a % 2 ^ k = x / 2 ^ a % 2 ^ k := by
  apply Nat.eq_of_testBit_eq
  intro i
  rw [Nat.testBit_mod_two_pow, Nat.testBit_mod_two_pow, Nat.testBit_div_two_pow, Nat.testBit_div_two_pow, Nat.testBit_mod_two_pow]
  by_cases q : i < k
  · have : i + a < b := by lia
    simp [q, this]
  · simp [q]
/-- digits laid into a list -/
noncomputable def setD (n x L R : Nat) (xs : List Nat) : List Nat := (List.range xs.length).map fun i => if L ≤ i ∧ i < R then x / 2 ^ (n * (i - L)) % 2 ^ n else xs.getD i 0
theorem setD_len (n x L R : Nat) (xs : List Nat) : (setD n x L R xs).length = xs.length := by simp [setD]
theorem setD_get (n x L R : Nat) (xs : List Nat) {i : Nat} (h : i < xs.length) : (setD n x L R xs).getD i 0 = if L ≤ i ∧ i < R then x / 2 ^ (n * (i - L)) % 2 ^ n else xs.getD i 0 := by
  rw [List.getD_eq_getElem?_getD]; simp [setD, h]
theorem setD_leaf (n x L : Nat) (xs : List Nat) (hx : x < 2 ^ n) (hL : L < xs.length) : xs.set L x = setD n x L (L + 1) xs := by
  apply List.ext_getElem
  · simp [setD]
  · intro i h1 h2
    have h3 : i < xs.length := by simpa using h1
    rw [List.getElem_set]
    have := setD_get n x L (L + 1) xs h3
    rw [List.getD_eq_getElem?_getD, List.getElem?_eq_getElem h2] at this
    simp only [Option.getD_some] at this
    rw [this]
    by_cases e : L = i
    · subst e
      simp [Nat.mod_eq_of_lt hx]
    · have : ¬ (L ≤ i ∧ i < L + 1) := by lia
      simp [e, this, h3]
theorem setD_step (n x L M R : Nat) (xs : List Nat) (h1 : L ≤ M) (h2 : M ≤ R) :
    setD n (x / 2 ^ ((M - L) * n)) M R (setD n (x % 2 ^ ((M - L) * n)) L M xs) = setD n x L R xs := by
  apply List.ext_getElem
  · simp [setD]
  · intro i h3 h4
    have h5 : i < xs.length := by simpa [setD] using h4
    have e1 := setD_get n (x / 2 ^ ((M - L) * n)) M R (setD n (x % 2 ^ ((M - L) * n)) L M xs) (i := i) (by rw [setD_len]; exact h5)
    have e2 := setD_get n (x % 2 ^ ((M - L) * n)) L M xs h5
    have e3 := setD_get n x L R xs h5
    rw [List.getD_eq_getElem?_getD, List.getElem?_eq_getElem h3] at e1
    rw [List.getD_eq_getElem?_getD (l := setD n x L R xs), List.getElem?_eq_getElem h4] at e3
    simp only [Option.getD_some] at e1 e3
    rw [e1, e2, e3]
    by_cases q1 : i < L
    · simp [show ¬ (M ≤ i ∧ i < R) by lia, show ¬ (L ≤ i ∧ i < M) by lia, show ¬ (L ≤ i ∧ i < R) by lia]
    by_cases q2 : i < M
    · rw [if_neg (show ¬ (M ≤ i ∧ i < R) by lia), if_pos (show L ≤ i ∧ i < M by lia), if_pos (show L ≤ i ∧ i < R by lia)]
      refine mod_cut _ _ _ _ ?_
      have : n * (i - L) + n = (i - L + 1) * n := by rw [Nat.add_mul, Nat.mul_comm n, Nat.one_mul]
      rw [this]
      exact Nat.mul_le_mul_right _ (by lia)
    by_cases q3 : i < R
    · rw [if_pos (show M ≤ i ∧ i < R by lia), if_pos (show L ≤ i ∧ i < R by lia), Nat.div_div_eq_div_mul, ← Nat.pow_add]
      have : (M - L) * n + n * (i - M) = n * (i - L) := by rw [Nat.mul_comm _ n, ← Nat.mul_add]; congr 1; lia
      rw [this]
    · rw [if_neg (show ¬ (M ≤ i ∧ i < R) by lia), if_neg (show ¬ (L ≤ i ∧ i < M) by lia), if_neg (show ¬ (L ≤ i ∧ i < R) by lia)]
theorem setD_all (n a : Nat) : setD n a 0 (((if a = 0 then 0 else a.log2 + 1) + n - 1) / n) (List.replicate (((if a = 0 then 0 else a.log2 + 1) + n - 1) / n) 0) = digitsT a n := by
  unfold setD digitsT
  rw [List.length_replicate]
  apply List.map_congr_left
  intro i hi
  rw [List.mem_range] at hi
  rw [if_pos ⟨Nat.zero_le _, hi⟩, Nat.sub_zero]
end
section
theorem vr_none : ∀ P P' v, VR P .none v → VR P' .none v := fun _ _ _ h => by unfold VR at h ⊢; exact h
theorem vrs_ints {xs : List Int} : ∀ P P' us, VRs P (ivs xs) us → VRs P' (ivs xs) us := fun _ _ _ h => VRs.ofInts h.toInts
/-- the inner def of _int2digits -/
theorem inner1_fn {kp : List (Addr × Obj)} {B : Heap} {f c' cdA cdI cdN b : Addr} {cl : List (Str × Addr)} {doc pm ctv : Value} {oc oA oI oN : Obj} {cvs : Array Value} {ct tN : Tok} (n : Nat) (hn0 : 0 < n) (hn : n ≤ 64)
    (ho : (f, fnMade (.ofString "inner") (.ofString "_int2digits.<locals>.inner") ia69 ib69 is69 cl doc pm c' ctv) ∈ kp) (hoc : (c', oc) ∈ kp) (hocd : oc.data = .fields cvs) (hocq : cvs[1]? = some (.str (.ofString "_int2digits.<locals>.inner") ct))
    (hcl : cl = [(.ofString "n", cdN), (.ofString "inner", cdI), (.ofString "a_digits", cdA)]) (hne : cdN ≠ cdI ∧ cdN ≠ cdA ∧ cdI ≠ cdA)
    (hA : (cdA, oA) ∈ kp) (hAd : oA.data = .cell (some (.ref b))) (hI : (cdI, oI) ∈ kp) (hId : oI.data = .cell (some (.ref f))) (hN : (cdN, oN) ∈ kp) (hNd : oN.data = .cell (some (.int (n : Nat) tN))) :
    ∀ (k x L R : Nat) (xs : List Nat), L < R → R ≤ xs.length → xs.length ≤ 1000 → R - L ≤ 2 ^ k → x < 2 ^ (n * (R - L)) → x < 2 ^ 60 → FnC kp B f (k + 1) [.int x, .int L, .int R] .none (some (b, ivs (ns xs))) (some (b, ivs (ns (setD n x L R xs)))) := by
  have key : ∀ (k x L R : Nat) (xs ys : List Nat), (∀ c : Cx, c.Is is69 k → c.keep = kp → c.base = B → ST c ib69 [(.ofString "x", .frz (.int x)), (.ofString "L", .frz (.int L)), (.ofString "R", .frz (.int R)), (.ofString "a_digits", .own b (ivs (ns xs))), (.ofString "n", .frz (.int (n : Nat))), (.ofString "inner", .raw (.ref f))]
      fun o σ' => (o = .ret .none ∨ o = .nxt) ∧ sget σ' (.ofString "a_digits") = some (.own b (ivs (ns ys)))) → FnC kp B f (k + 1) [.int x, .int L, .int R] .none (some (b, ivs (ns xs))) (some (b, ivs (ns ys))) := by
    intro k x L R xs ys h
    refine FnC.intro (ps := [.ofString "x", .ofString "L", .ofString "R"]) (τ := [(.ofString "a_digits", .own b (ivs (ns xs))), (.ofString "n", .frz (.int (n : Nat))), (.ofString "inner", .raw (.ref f))]) ho hoc hocd hocq (lensS rfl fun v => lensS rfl fun u => lens1 rfl fun w => rfl) rfl rfl (by decide) (by decide) rfl rfl rfl ?hcl ?hinj ?hτ ?hone fun c C hk hB => (h c C hk hB).mono fun o σ' e => ⟨e.1.imp id fun q => ⟨q, rfl⟩, fun _ _ q => ⟨_, by cases q; exact e.2⟩⟩
    case hcl =>
      intro x cd h
      rw [hcl] at h
      have hm := lookup_mem' h
      simp only [List.mem_cons, List.not_mem_nil, or_false, Prod.mk.injEq] at hm
      rcases hm with ⟨_, rfl⟩ | ⟨_, rfl⟩ | ⟨_, rfl⟩
      · exact ⟨_, _, hN, hNd⟩
      · exact ⟨_, _, hI, hId⟩
      · exact ⟨_, _, hA, hAd⟩
    case hinj =>
      intro x y cd h h'
      rw [hcl] at h h'
      have hm := lookup_mem' h
      have hm' := lookup_mem' h'
      simp only [List.mem_cons, List.not_mem_nil, or_false, Prod.mk.injEq] at hm hm'
      obtain ⟨n1, n2, n3⟩ := hne
      rcases hm with ⟨rfl, rfl⟩ | ⟨rfl, rfl⟩ | ⟨rfl, rfl⟩ <;> rcases hm' with ⟨e1, e2⟩ | ⟨e1, e2⟩ | ⟨e1, e2⟩ <;>
        first
        | exact e1.symm
        | exact absurd e2 (by assumption)
        | exact absurd e2.symm (by assumption)
    case hτ =>
      intro z hz x l h
      have hm := lookup_mem' h
      simp only [List.mem_cons, List.not_mem_nil, or_false, Prod.mk.injEq] at hm
      rcases hm with ⟨rfl, rfl⟩ | ⟨rfl, rfl⟩ | ⟨rfl, rfl⟩
      · exact ⟨cdA, oA, _, rfl, by rw [hcl]; rfl, hA, hAd, rfl, rfl⟩
      · exact ⟨cdN, oN, _, rfl, by rw [hcl]; rfl, hN, hNd, by show VR _ _ _; unfold VR; exact ⟨_, rfl⟩⟩
      · exact ⟨cdI, oI, _, rfl, by rw [hcl]; rfl, hI, hId, rfl⟩
    case hone =>
      intro x y b xs ys h h'
      have hm := lookup_mem' h
      have hm' := lookup_mem' h'
      simp only [List.mem_cons, List.not_mem_nil, or_false, Prod.mk.injEq, reduceCtorEq, and_false] at hm hm'
      rw [hm.1, hm'.1]
  have leaf : ∀ (k x L R : Nat) (xs : List Nat), L + 1 = R → R ≤ xs.length → xs.length ≤ 1000 → x < 2 ^ n → FnC kp B f (k + 1) [.int x, .int L, .int R] .none (some (b, ivs (ns xs))) (some (b, ivs (ns (setD n x L R xs)))) := by
    intro k x L R xs h1 h2 h3 hx
    refine key k x L R xs _ fun c C hk hB => ?_
    repeat walk_at "rr"
    rw [show ((L : Int) + 1 == (R : Int)) = true from by rw [beq_iff_eq]; lia]
    repeat walk_at "rr"
    refine S1.setItem ?_ (C.swap fun _ _ _ _ _ => rfl)
    repeat walk_at "rr"
    refine ⟨b, _, rfl, ?_⟩
    repeat walk_at "rr"
    refine ⟨_, _, rfl, rfl, by lia, by simp; lia, by simp; lia, ?_⟩
    refine SQ.nx (ST.cons (S1.retN ?_))
    refine ⟨.inl rfl, ?_⟩
    rw [← h1, ← setD_leaf n x L xs hx (by lia)]
    rw [sget_sput_same, Int.toNat_natCast]
    simp [ivs, ns, List.map_set]
  intro k
  induction k with
  | zero =>
    intro x L R xs h1 h2 h3 h4 hx _
    have hR : L + 1 = R := by lia
    refine leaf 0 x L R xs hR h2 h3 ?_
    rw [← hR, show n * (L + 1 - L) = n by rw [show L + 1 - L = 1 by lia, Nat.mul_one]] at hx
    exact hx
  | succ k ih =>
    intro x L R xs h1 h2 h3 h4 hx hx2
    by_cases hR : L + 1 = R
    · refine leaf (k + 1) x L R xs hR h2 h3 ?_
      rw [← hR, show n * (L + 1 - L) = n by rw [show L + 1 - L = 1 by lia, Nat.mul_one]] at hx
      exact hx
    refine key (k + 1) x L R xs _ fun c C hk hB => ?_
    repeat walk_at "rr"
    rw [show ((L : Int) + 1 == (R : Int)) = false from by rw [beq_eq_false_iff_ne]; lia]
    repeat walk_at "rr"
    refine BinOk.rsh (by decide) ?_
    rw [show ((L : Int) + (R : Int)).fdiv (2 ^ ((1 : Int)).toNat) = (((L + R) / 2 : Nat) : Int) from by rw [← fdiv2]; simp]
    generalize hM : (L + R) / 2 = M
    repeat walk_at "rr"
    refine BinOk.mulR (by lia) ?_
    rw [show ((M : Int) - (L : Int)) * (n : Int) = (((M - L) * n : Nat) : Int) from by rw [Int.natCast_mul, Int.ofNat_sub (by lia)]]
    repeat walk_at "rr"
    have hsh : (M - L) * n ≤ 1000 * 64 := Nat.mul_le_mul (by lia) hn
    refine BinOk.rsh (by lia) ?_
    rw [Int.toNat_natCast, show (2 : Int) ^ ((M - L) * n) = ((2 ^ ((M - L) * n) : Nat) : Int) from by simp, fdiv_nat]
    repeat walk_at "rr"
    have hup : x / 2 ^ ((M - L) * n) < 2 ^ 60 := Nat.lt_of_le_of_lt (Nat.div_le_self _ _) hx2
    refine BinOk.lsh (by lia) (by lia) (by rw [Int.natAbs_natCast]; lia) ?_
    rw [Int.toNat_natCast, show ((x / 2 ^ ((M - L) * n) : Nat) : Int) * (2 : Int) ^ ((M - L) * n) = ((x / 2 ^ ((M - L) * n) * 2 ^ ((M - L) * n) : Nat) : Int) from by simp]
    refine BinOk.xor ?_
    rw [xor_low]
    repeat walk_at "rr"
    have call : ∀ {σ : Sto} {L1 R1 x1 : Nat} {ys : List Nat} {Post : V → Sto → Prop}, sget σ (.ofString "a_digits") = some (.own b (ivs (ns ys))) → L1 < R1 → R1 ≤ ys.length → ys.length ≤ 1000 → R1 - L1 ≤ 2 ^ k → x1 < 2 ^ (n * (R1 - L1)) → x1 < 2 ^ 60 → Post .none (sput σ (.ofString "a_digits") (.own b (ivs (ns (setD n x1 L1 R1 ys))))) →
        ∀ hid z s m own, AtX c hid z c.env σ s m own → ∃ kp rv lo lo' σ', FnC kp c.base f (k + 1) [.int x1, .int L1, .int R1] rv lo lo' ∧ (∀ p ∈ kp, (p ∈ own ∧ ∃ v, p.2.data = .cell v) ∨ p ∈ z) ∧
      ((lo = none ∧ lo' = none ∧ σ' = σ) ∨ (∃ x b xs xs', lo = some (b, xs) ∧ lo' = some (b, xs') ∧ sget σ x = some (.own b xs) ∧ σ' = sput σ x (.own b xs'))) ∧
      (∀ P P' v, VR P rv v → VR P' rv v) ∧ (∀ b xs P P' us, lo' = some (b, xs) → VRs P xs us → VRs P' xs us) ∧ Post rv σ' := fun {σ L1 R1 x1 ys Post} q0 q1 q2 q3 q4 q5 q6 hP hid z s m own X =>
      ⟨kp, _, _, _, _, by rw [hB]; exact ih x1 L1 R1 ys q1 q2 q3 q4 q5 q6, fun p hp => .inr (X.x8.2.kept p (by rw [hk]; exact hp)), .inr ⟨_, b, _, _, rfl, rfl, q0, rfl⟩, vr_none, fun _ _ _ _ _ e => (by cases e; exact vrs_ints _ _ _), hP⟩
    have hfk : ∃ fo fd, (f, fo) ∈ c.keep ∧ fo.data = Data.func fd := ⟨_, _, by rw [hk]; exact ho, rfl⟩
    refine S1.expr ?_ (C.swap fun _ _ _ _ _ => rfl)
    refine EV.callC C.ok rfl hfk ?_
    repeat walk_at "rr"
    have hlow : x % 2 ^ ((M - L) * n) < 2 ^ (n * (M - L)) := by rw [Nat.mul_comm n]; exact Nat.mod_lt _ (Nat.two_pow_pos _)
    refine call rfl (by lia) (by lia) h3 (by rw [Nat.pow_succ] at h4; lia) hlow (Nat.lt_of_le_of_lt (Nat.mod_le _ _) hx2) ?_
    refine SQ.nx (ST.cons (S1.expr ?_ (C.swap fun _ _ _ _ _ => rfl)))
    refine EV.callC C.ok rfl hfk ?_
    repeat walk_at "rr"
    refine call (by rw [sget_sput_same]) (by lia) (by rw [setD_len]; exact h2) (by rw [setD_len]; exact h3) (by rw [Nat.pow_succ] at h4; lia) ?_ hup ?_
    · rw [Nat.div_lt_iff_lt_mul (Nat.two_pow_pos _), ← Nat.pow_add]
      have : n * (R - M) + (M - L) * n = n * (R - L) := by rw [Nat.mul_comm _ n, ← Nat.mul_add]; congr 1; lia
      rw [this]; exact hx
    · refine SQ.nx (ST.nil ⟨.inr rfl, ?_⟩)
      rw [setD_step n x L M R xs (by lia) (by lia), sget_sput_same]
end
section
section
variable {c : Cx} {env : Env} {z hid : List (Addr × Obj)} {σ : Sto} {e : Expr} {pos apos : Pos} {Post : V → Sto → Prop}
theorem intBits_nat (a : Nat) : Builtin.Int.intBits (a : Int) = if a = 0 then 0 else a.log2 + 1 := by
  unfold Builtin.Int.intBits
  by_cases h : a = 0
  · subst h; rfl
  · simp [h]
theorem EV.bitlen (h : EV c env e σ fun a σ₁ => ∃ i, a = .int i ∧ Post (.int (Builtin.Int.intBits i : Nat)) σ₁) (hbase : attributeBase e (.ofString "bit_length") env (eval e env) = eval e env := by rfl) (hline : (apos.endLine == pos.line) = true := by rfl) :
    EV c env (.Call (.Attribute e (.ofString "bit_length") apos) [] [] pos) σ Post := fun hid z s H E => by
  refine wpAny_Call_method (T := "int") (id := "int.bit_length") hbase (by rfl) hline PySem.F.plainAttrs_int PySem.F.slot_int_bit_length PySem.F.type_int_bit_length (h.go H fun z₁ a σ₁ va s₁ hz₁ H₁ ha sm₁ hPat => ?_)
  obtain ⟨i, e, k⟩ := hPat
  subst e
  unfold VR at ha
  obtain ⟨t, rfl⟩ := ha
  refine ⟨typeIs_int _ _ _, fun a e => (nomatch e), ?_⟩
  refine Calls.callWith_builtin rfl (evalArgs_nil3 ?_)
  exact call_int_bit_length (EP.from (EP.int H₁ k) hz₁ sm₁)
theorem EV.lenN {x : Str} {p p' : Pos} {n : Nat} {xs : List V} (ok : c.Ok n) (hx : Holds σ x xs) (hl : xs.length < 2 ^ 62) (hk : env.kindOf (.ofString "len") = some .globalImplicit) (h : Post (.int xs.length) σ) (h1 : (x == ("__debug__" : Str)) = false := by decide) (h2 : (x == ("__classdict__" : Str)) = false := by decide) :
    EV c env (.Call (.Name (.ofString "len") p) [.Name x p'] [] pos) σ Post := fun hid z s H E => by
  show wpAny _ _ (do callWith pos (← eval (.Name (.ofString "len") p) env) [] (backTo pos (starEach [Expr.Name x p'] env)) (backToKw pos (keywordEach [] env))) _ _ s
  obtain ⟨m, F⟩ := H.fr
  obtain ⟨_, ek⟩ := H.envOk
  have TR := topRead_of ok.top
  refine wpAny_bind (Name_function_global ek.kind hk (loadGlobal_builtin (mg := c.mg) (mb := c.mb) (ek.globals ▸ TR.g.keeps H.base) (mg_none_of ok.kin TR.g (ns_len _)) (ek.builtins ▸ TR.b.keeps H.base) ((TR.builtins _ (by decide)).trans boot_len) ?_) (by decide))
  refine callWith_builtin1 ?_ (by rfl) (by rfl)
  obtain ⟨a, vs, k, load, hg, hr, w⟩ := H.peek hx h1 h2
  refine spliced_more (load _ _ _ (spliced_none ?_)) rfl
  have hlen := hr.len
  refine call_len_list (isL hg) (by rw [List.size_toArray]; lia) ?_
  rw [List.size_toArray, hlen]
  exact EP.int H h
end
set_option maxHeartbeats 400000 in
theorem int2digits_fn (a n : Nat) (hn0 : 0 < n) (hn : n ≤ 64) (ha : a < 2 ^ 60) : Fn (nat_lit 69) 10 [.int a, .int n] (.lst (ivs (ns (digitsT a n)))) := by
  refine Fn.intro (n := 9) (name := .ofString "_int2digits") (qual := .ofString "_int2digits") (params := a69) (body := b69) (scope := s69) (pm := .str (.ofString "cpy313._pylong") 351) (cdv := .ref (nat_lit 68)) (ps := [.ofString "a", .ofString "n"]) (fun _ => rfl) cd_int2digits (lensS rfl fun v => lens1 rfl fun u => rfl) rfl rfl (by decide) (by decide) rfl rfl rfl fun c hp ⟨hcn, hccd⟩ hcs hcl hkeep ok => ?_
  have C : c.Is s69 9 := ⟨hp, hcs, .inl (hcl.imp fun _ e => ⟨e, hkeep⟩), ok⟩
  generalize hbl : (if a = 0 then 0 else a.log2 + 1) = bl
  have hbl60 : bl ≤ 60 := by
    rw [← hbl, ← intBits_nat]
    exact intBits_le (by rw [Int.natAbs_natCast]; exact ha)
  refine ST.cons (S1.assignO (C.cel rfl) (EVO.mulList ?_) (C.swap fun _ _ _ _ _ => rfl))
  refine EVO.toEV ?_
  repeat walk_at "rr"
  refine ⟨by rw [sizeLine_eq]; simp, ?_⟩
  repeat walk_at "rr"
  refine EV.bitlen ?_ ?hb ?hl
  case hb => rfl
  case hl => rfl
  repeat walk_at "rr"
  refine ⟨_, rfl, ?_⟩
  rw [intBits_nat, hbl]
  repeat walk_at "rr"
  rw [show (bl : Int) + (n : Int) - 1 = ((bl + n - 1 : Nat) : Int) from by lia]
  refine BinOk.fdivS (by lia) (by lia) ?_
  rw [fdiv_nat]
  generalize hk : (bl + n - 1) / n = k
  have hk60 : k ≤ 60 := by
    rw [← hk]
    have : (bl + n - 1) / n ≤ (60 * n) / n := by
      refine Nat.div_le_div_right ?_
      have : 60 - 1 ≤ (60 - 1) * n := Nat.le_mul_of_pos_right _ hn0
      lia
    rwa [Nat.mul_div_cancel _ hn0] at this
  have hbk : a < 2 ^ (n * k) := by
    have h1 : a < 2 ^ bl := by
      rw [← hbl]
      by_cases q : a = 0
      · simp [q]
      · rw [if_neg q]; exact Nat.lt_log2_self
    refine Nat.lt_of_lt_of_le h1 (Nat.pow_le_pow_right (by decide) ?_)
    have := Nat.lt_div_mul_add hn0 (a := bl + n - 1)
    rw [hk, Nat.mul_comm] at this
    lia
  refine ⟨_, _, rfl, rfl, by simp, by lia, by lia, by simp; lia, fun b => ?_⟩
  rw [show (List.replicate ((k : Nat) : Int).toNat [V.int 0]).flatten = ivs (ns (List.replicate k 0)) from by
    rw [Int.toNat_natCast]
    clear hk hk60 hbk
    induction k with
    | zero => rfl
    | succ k ih => rw [List.replicate_succ, List.flatten_cons, ih, List.replicate_succ]; rfl]
  refine SQ.nx ?_
  show ST c _ [(.ofString "a", .frz (.int a)), (.ofString "n", .frz (.int n)), (.ofString "a_digits", .own b (ivs (ns (List.replicate k 0))))] _
  intro hid z s H E
  refine wpAny_execs_cons (nest_wp nest1 C.ok hccd H (C.cel rfl) (C.clos (by rfl)) ?hq rfl rfl rfl rfl rfl ?_)
  case hq =>
    unfold qualnameIn
    rw [C.kind (k := .cell) rfl]
    show c.cn ++ _ ++ _ = _
    rw [hcn]; decide
  intro f ctv doc c' oc vs t z1 s1 hz hf hc' hdd hv H1 sm
  have nc : NoCells [(f, fnMade (.ofString "inner") (.ofString "_int2digits.<locals>.inner") ia69 ib69 is69 (compCl is69.names c.cl []) doc ((c.mg "__name__").getD .none) c' ctv), (c', oc)] := fun p hp v e => by
    simp only [List.mem_cons, List.not_mem_nil, or_false] at hp
    rcases hp with rfl | rfl
    · cases e
    · rw [hdd] at e; cases e
  have H2 := H1.keepIn (kp := [(f, _), (c', oc)]) hkeep fun p hp => by
    simp only [List.mem_cons, List.not_mem_nil, or_false] at hp
    rcases hp with rfl | rfl
    · exact hf
    · exact hc'
  let c2 : Cx := { c with keep := [(f, fnMade (.ofString "inner") (.ofString "_int2digits.<locals>.inner") ia69 ib69 is69 (compCl is69.names c.cl []) doc ((c.mg "__name__").getD .none) c' ctv), (c', oc)] }
  have ok2 : c2.Ok 9 := ⟨ok.kin, ok.top, ok.code1, ok.code2, ok.fn, ok.room, ok.units⟩
  have kd : ∀ {y k}, s69.names.lookup y = some k → c2.env.kindOf y = some k := fun h => C.kind h
  have go : ∀ {σ : Sto} {Q : Out → Sto → Prop} {body : List Stmt}, At c2 hid z1 c2.env σ s1 → ST c2 body σ Q → wpAny c.M c.A (execs body c.env) (SP c hid z s Q) E s1 := fun {σ Q body} H2 h =>
    wpAny_mono (h hid z1 s1 H2 E) (fun fl s3 hPat => by obtain ⟨z3, o, σ3, a, b, d, e, g⟩ := hPat; exact ⟨z3, o, σ3, fun p hp => a p (hz p hp), b.unkeep hkeep nc, d, sm.trans e, g⟩) fun _ _ e => e
  refine go H2 ?_
  show ST c2 _ [(.ofString "a", .frz (.int a)), (.ofString "n", .frz (.int n)), (.ofString "a_digits", .own b (ivs (ns (List.replicate k 0)))), (.ofString "inner", .raw (.ref f))] _
  have fin : ∀ {σ : Sto} {ys : List Nat}, sget σ (.ofString "a_digits") = some (.own b (ivs (ns ys))) → ys = digitsT a n → ST c2 [b69.getLast (by decide)] σ fun o _ => o = .ret (.lst (ivs (ns (digitsT a n)))) := fun {σ ys} hs he => by
    refine ST.cons (S1.ret (EV.nameOwn hs ?_))
    rw [he]; rfl
  refine ST.cons (S1.if_ (TV.int (EV.name rfl ⟨_, rfl, ?_⟩)))
  by_cases ha0 : a = 0
  · subst ha0
    refine ifF (ST.nil (SQ.nx (fin rfl ?_)))
    rw [if_pos rfl] at hbl
    have hk0 : k = 0 := by
      rw [← hk, ← hbl]
      exact Nat.div_eq_of_lt (by lia)
    unfold digitsT
    rw [if_pos rfl, hbl, hk, hk0]
    rfl
  · rw [show ((a : Int) != 0) = true from by simp; exact ha0]
    refine ifT (ST.cons (S1.expr (EV.callC (ok2.le (by decide : 6 + 1 ≤ 9)) rfl ⟨_, _, .head _, rfl⟩ ?_) ?hs))
    case hs => exact C.swap fun _ _ _ _ _ => rfl
    repeat walk_at "rr"
    refine EV.lenN ok2 (.own rfl) (by simp; lia) (kd rfl) ?_
    rw [show (ivs (ns (List.replicate k 0))).length = k from by simp]
    refine EVs.nil fun hid z s m own X => ?_
    have V := X.x6
    obtain ⟨vN, sN, rN⟩ := V (.ofString "n") _ rfl
    have sI := V (.ofString "inner") _ rfl
    obtain ⟨sA, usA, kA, mAo, rA⟩ := V (.ofString "a_digits") _ rfl
    obtain ⟨cdA, oA, lA, mA, dA⟩ := cell_of X (kd rfl) nc sA
    obtain ⟨cdN, oN, lN, mN, dN⟩ := cell_of X (kd rfl) nc sN
    obtain ⟨cdI, oI, lI, mI, dI⟩ := cell_of X (kd rfl) nc sI
    have inj := (X.x8.1 rfl).2.1
    unfold VR at rN
    obtain ⟨tN, rfl⟩ := rN
    have hclos : compCl is69.names c.cl [] = [(.ofString "n", cdN), (.ofString "inner", cdI), (.ofString "a_digits", cdA)] := by
      show [(_, (c.cl.lookup (.ofString "n")).getD 0), (_, (c.cl.lookup (.ofString "inner")).getD 0), (_, (c.cl.lookup (.ofString "a_digits")).getD 0)] = _
      rw [show c.cl.lookup (.ofString "n") = _ from lN, show c.cl.lookup (.ofString "inner") = _ from lI, show c.cl.lookup (.ofString "a_digits") = _ from lA]
      rfl
    have hkpos : 0 < k := by
      rw [← hk]
      refine Nat.div_pos ?_ hn0
      rw [if_neg ha0] at hbl
      lia
    have hF := inner1_fn (kp := (cdA, oA) :: (cdI, oI) :: (cdN, oN) :: c2.keep) (B := c2.base) (f := f) (c' := c') (cdA := cdA) (cdI := cdI) (cdN := cdN) (b := b) (cl := compCl is69.names c.cl []) (doc := doc) (pm := (c.mg "__name__").getD .none) (ctv := ctv) (oc := oc) (oA := oA) (oI := oI) (oN := oN) (cvs := vs) (ct := t) (tN := tN) n hn0 hn
      (.tail _ (.tail _ (.tail _ (.head _)))) (.tail _ (.tail _ (.tail _ (.tail _ (.head _))))) hdd hv hclos
      ⟨fun e => absurd (inj _ _ _ lN (e ▸ lI)) (by decide), fun e => absurd (inj _ _ _ lN (e ▸ lA)) (by decide), fun e => absurd (inj _ _ _ lI (e ▸ lA)) (by decide)⟩
      (.head _) dA (.tail _ (.head _)) dI (.tail _ (.tail _ (.head _))) dN 6 a 0 k (List.replicate k 0) hkpos (by simp) (by simp; lia) (by lia) hbk ha
    replace hF : FnC _ c2.base f (6 + 1) [.int a, .int 0, .int k] _ _ _ := hF
    refine ⟨_, _, _, _, _, hF, fun p hp => ?_, .inr ⟨.ofString "a_digits", b, _, _, rfl, rfl, rfl, rfl⟩, vr_none, fun _ _ _ _ _ e => (by cases e; exact vrs_ints _ _ _), ?_⟩
    · simp only [List.mem_cons] at hp
      rcases hp with rfl | rfl | rfl | hp
      · exact .inl ⟨mA, _, dA⟩
      · exact .inl ⟨mI, _, dI⟩
      · exact .inl ⟨mN, _, dN⟩
      · exact .inr (X.x8.2.kept _ (by first | exact hp | (simp only [List.mem_cons]; exact hp)))
    · refine SQ.nx (ST.nil (SQ.nx (fin (by rw [sget_sput_same]) ?_)))
      rw [← setD_all n a, hbl, hk]
end
section
section
variable {c : Cx} {env : Env} {z z' hid : List (Addr × Obj)} {σ σ' : Sto} {s s' s₁ : Shared} {x y : Str} {v : Value} {E : Value → Shared → Prop} {e l r : Expr} {es : List Expr} {pos p p' p'' spos px py : Pos} {Post : V → Sto → Prop} {P : V → Prop} {n : Nat} {Q : Out → Sto → Prop} {body : List Stmt}
/-- a loop over a list turned round -/
theorem S1.forRev (ok : c.Ok n) (hxr : c.env.kindOf (.ofString "reversed") = some .globalImplicit) (hx : Storable c x)
    (h : EV c c.env e σ fun a σ₁ => ∃ (xs : List V) (J : Nat → Sto → Prop), a = .lst xs ∧ J 0 σ₁ ∧ (∀ i σ, i < xs.length → J i σ → ST c body (sput σ x (.frz (xs.getD (xs.length - 1 - i) .none))) (LE (J (i + 1)) Q)) ∧ ∀ σ, J xs.length σ → Q .nxt σ)
    (he : starEach [e] c.env = [(false, eval e c.env)]) (hs : ∀ v, foldedSetIterable (.Call (.Name (.ofString "reversed") p) [e] [] p') c.env v = pure v) :
    S1 c (.For (.Name x px) (.Call (.Name (.ofString "reversed") p) [e] [] p') body [] pos) σ Q := fun hid z s H E => by
  refine wpAny_For ?_ hs
  show wpAny _ _ (do callWith p' (← eval (.Name (.ofString "reversed") p) c.env) [] (backTo p' (starEach [e] c.env)) (backToKw p' (keywordEach [] c.env))) _ _ s
  obtain ⟨m, F⟩ := H.fr
  obtain ⟨_, ek⟩ := H.envOk
  have TR := topRead_of ok.top
  refine wpAny_bind (Name_function_global ek.kind hxr (loadGlobal_builtin (mg := c.mg) (mb := c.mb) (v := .type "reversed") (ek.globals ▸ TR.g.keeps H.base) (mg_none_of ok.kin TR.g (ns_reversed _)) (ek.builtins ▸ TR.b.keeps H.base) ((TR.builtins _ (by decide)).trans (by rfl)) ?_) (by decide))
  rw [he]
  refine PySem.callWith_type rfl (Calls.evalArgs_plain (Calls.spliced_cons (h.go H fun z₁ a σ₁ va s₁ hz₁ H₁ ha sm₁ ⟨xs, J, e, h0, step, done⟩ => Calls.spliced_nil ?_)))
  subst e
  unfold VR at ha
  obtain ⟨ad, vs, k, rfl, hp, hr⟩ := ha
  have hg := H₁.get hp
  refine call_reversed_list (isL hg) ?_
  have hne : ad ≠ s₁.heap.objs.size := Nat.ne_of_lt (Heap.lt_size hg)
  have H₂ := H₁.pushH (o := revObj ad ((vs.toArray.size : Int) - 1))
  have hit : Heap.IsRevIter (s₁.heap.push (revObj ad ((vs.toArray.size : Int) - 1))) s₁.heap.objs.size ad ((vs.toArray.size : Int) - 1) := ⟨_, Heap.get?_push_size _ rfl, rfl, rfl⟩
  refine wpAny_pyIter_revIter hit ?_
  have hlen : vs.toArray.size = xs.length := by rw [List.size_toArray, hr.len]
  have W := Walks.listRev (prog := c.prog) (w := c.w) (A := c.A) rfl s₁.heap.objs.size ad hne vs.toArray
  rw [hlen] at W hit H₂ ⊢
  refine forLoop_core (σ := σ₁) (z := z₁) (items := fun i => xs.getD (xs.length - 1 - i) .none) W (fun i h st => let ⟨_, ⟨o, e, _⟩, _⟩ := st; ⟨o, e⟩) (fun b hb => ?_) (fun i v hv => ?_) hx J (fun i σ hi hJ => step i σ hi hJ) done (H₁.new_off (o := default)) H₂ ⟨Nat.zero_le _, by simpa using hit, (isL hg).push _⟩ h0 (fun f s' x => x.from hz₁ (sm₁.trans ⟨rfl, rfl, rfl⟩))
  · rcases List.mem_cons.mp hb with h | h
    · exact .inl h
    · rw [List.mem_singleton.mp h]; exact .inr ⟨_, hp⟩
  · have hv' : vs[xs.length - 1 - i]? = some v := by simpa using hv
    have hi : xs.length - 1 - i < xs.length := by have := (List.getElem?_eq_some_iff.mp hv').1; have := hr.len; lia
    obtain ⟨u, hu, hw⟩ := hr.get (List.getElem?_eq_getElem hi)
    rw [hv'] at hu; cases hu
    rw [List.getD_eq_getElem?_getD, List.getElem?_eq_getElem hi]; exact hw
/-- a list is turned round -/
theorem S1.reverse {b : Addr} {xs : List V} (hx : sget σ x = some (.own b xs)) (hl : xs.length ≤ sizeLine) (h : Q .nxt (sput σ x (.own b xs.reverse))) (hline : (p'.endLine == pos.line) = true)
    (h1 : (x == ("__debug__" : Str)) = false := by decide) (h2 : (x == ("__classdict__" : Str)) = false := by decide) : S1 c (.Expr (.Call (.Attribute (.Name x p) (.ofString "reverse") p') [] [] pos) spos) σ Q := fun hid z s H E => by
  obtain ⟨a, vs, n, load, hg, hr, w⟩ := H.peek (.own hx) h1 h2
  have hab : a = b := by
    rcases w with ⟨b', e, rfl⟩ | ⟨b', e, rfl⟩ | ⟨e, _⟩ <;> (rw [hx] at e; cases e; try rfl)
  subst hab
  refine wpAny_Expr_any (wpAny_Call_method (T := "list") (id := "list.reverse") rfl (by rfl) hline PySem.F.plainAttrs_list PySem.F.slot_list_reverse PySem.F.type_list_reverse (load _ _ _ ⟨(isL hg).typeIs, fun q e => by cases e; exact ⟨_, hg, rfl⟩, ?_⟩)) H.fn_env rfl
  obtain ⟨m, own, X⟩ := id H
  obtain ⟨hs, vs', n', hm, hr'⟩ := X.x6 x _ hx
  have hg' := (X.x2 _ (List.mem_append_left _ hm)).1
  refine PySem.P.reverse_list (l := a) (items := vs'.toArray) (n := n') hg' ?_ (by rw [List.size_toArray, hr'.len]; exact hl)
  have hup : (s.heap.update a (Obj.mapSeq fun x => x.reverse)).get? a = some (lobj vs'.reverse (if (vs'.toArray.reverse).size == vs'.toArray.size then n' else n' + 1)) := by
    rw [Heap.get?_update_self _ hg' (by rw [mapSeq_lobj]; rfl), mapSeq_lobj]
    simp
  exact ⟨z, .nxt, _, fun _ h => h, At.mutate (t := s.toks) X hx hm (Heap.SameBut.update ..) hup hr'.rev, rfl, ⟨rfl, rfl, rfl⟩, h⟩
theorem EV.gconst {i : Int} {t : Nat} (ok : c.Ok n) (hf : nsIn (K c.w.params) mainGlobals x = some (some (.int i t))) (hx : env.kindOf x = some .globalImplicit) (h : Post (.int i) σ) (hd : (x == ("__debug__" : Str)) = false := by decide) :
    EV c env (.Name x p) σ Post := fun hid z s H E => by
  obtain ⟨_, ek⟩ := H.envOk
  exact Name_function_global ek.kind hx (loadGlobal_global (mg := c.mg) (ek.globals ▸ ok.top.g.keeps H.base) (mg_of ok.kin ok.top.g hf) ⟨z, .int i, σ, fun _ h => h, H, by unfold VR; exact ⟨t, rfl⟩, ⟨rfl, rfl, rfl⟩, h⟩) hd
theorem ns_DIV (P : Params) : nsIn (K P) mainGlobals (.ofString "_DIV_LIMIT") = some (some (.int 4000 353)) := by kernel_rfl
theorem boot_divmod' : bootBuiltins (.ofString "divmod") = some (.builtin "divmod") := by rfl
theorem CallOk.divmod {i j : Int} (hj : j ≠ 0) (hb : j.natAbs < 2 ^ 1000) (h : P (.tup [.int (i.fdiv j), .int (i.fmod j)])) : CallOk c (.builtin "divmod") [.int i, .int j] P := fun env σ hid z s vs H hv E => by
  unfold VRs at hv; obtain ⟨v, r, rfl, hv, hr⟩ := hv
  unfold VRs at hr; obtain ⟨v2, r, rfl, hv2, hr⟩ := hr
  unfold VRs at hr; subst hr
  unfold VR at hv hv2
  obtain ⟨t, rfl⟩ := hv
  obtain ⟨u, rfl⟩ := hv2
  refine divmod_int hj ?_ (.inl (PyProof.noPylong_of_log2 ?_))
  · have H' := (H.pushZ (o := tobj [.int (i.fdiv j) s.toks, .int (i.fmod j) (s.toks + 1)] 0)).toks (n := s.toks + 1 + 1)
    refine ⟨_, _, σ, fun p hp => .tail _ hp, H', ?_, ⟨rfl, rfl, rfl⟩, h, rfl⟩
    unfold VR
    refine ⟨_, _, _, rfl, .inr (.head _), VRs.cons (by unfold VR; exact ⟨_, rfl⟩) (VRs.cons (by unfold VR; exact ⟨_, rfl⟩) VRs.nil)⟩
  · have := log2_lt hb (by lia)
    lia
end
end
section
theorem div_fn (x b n : Nat) (hx : x < 2 ^ 200) (hb0 : 0 < b) (hb : b < 2 ^ 60) : Fn (nat_lit 55) 4 [.int x, .int b, .int n] (.tup [.int (x / b : Nat), .int (x % b : Nat)]) := by
  refine Fn.intro' (n := 3) (name := .ofString "_div2n1n") (qual := .ofString "_div2n1n") (params := a55) (body := b55) (scope := s55) (pm := .str (.ofString "cpy313._pylong") 351) (cdv := .ref (nat_lit 54)) (ps := [.ofString "a", .ofString "b", .ofString "n"]) (fun _ => rfl) cd_div2n1n (lensS rfl fun v => lensS rfl fun u => lens1 rfl fun w => rfl) rfl rfl (by decide) (by decide) rfl rfl rfl fun c C => ?_
  repeat walk_at "rr"
  refine EV.bitlen ?_ ?hb ?hl
  case hb => rfl
  case hl => rfl
  repeat walk_at "rr"
  refine ⟨_, rfl, ?_⟩
  repeat walk_at "rr"
  refine EV.gconst C.ok (ns_DIV _) (C.kind rfl) ?_
  repeat walk_at "rr"
  have h1 : Builtin.Int.intBits (x : Int) ≤ 200 := intBits_le (by rw [Int.natAbs_natCast]; exact hx)
  rw [decide_eq_true (show (Builtin.Int.intBits (x : Int) : Int) - (n : Int) ≤ 4000 by lia)]
  repeat walk_at "rr"
  refine EV.callB C.ok (ns_divmod _) boot_divmod' (C.kind rfl) ?_ (by decide) (by decide) rfl rfl
  repeat walk_at "rr"
  refine CallOk.divmod (by lia) ?_ ?_
  · rw [Int.natAbs_natCast]; exact Nat.lt_of_lt_of_le hb (Nat.pow_le_pow_right (by decide) (by decide))
  · rw [fdiv_nat, fmod_nat]
    repeat walk_at "rr"
    rfl
/-- long division, a digit at a time; the digits begin at the top -/
noncomputable def longD (b n : Nat) : Nat → List Nat → List Nat × Nat
  | r, [] => ([], r)
  | r, d :: ds => let p := longD b n ((r * 2 ^ n + d) % b) ds; ((r * 2 ^ n + d) / b :: p.1, p.2)
noncomputable def stepsD (b n : Nat) (ds : List Nat) : Nat → List Nat × Nat
  | 0 => ([], 0)
  | i + 1 => let p := stepsD b n ds i; (p.1 ++ [(p.2 * 2 ^ n + ds.getD (ds.length - 1 - i) 0) / b], (p.2 * 2 ^ n + ds.getD (ds.length - 1 - i) 0) % b)
theorem stepsD_len (b n : Nat) (ds : List Nat) : ∀ i, (stepsD b n ds i).1.length = i
  | 0 => rfl
  | i + 1 => by unfold stepsD; simp [stepsD_len b n ds i]
theorem stepsD_ok (b n : Nat) (hb : 0 < b) (ds : List Nat) : ∀ i, i ≤ ds.length → valT n (ds.drop (ds.length - i)) = b * valT n (stepsD b n ds i).1.reverse + (stepsD b n ds i).2 ∧ (stepsD b n ds i).2 < b
  | 0, _ => by simp [stepsD, valT, hb]
  | i + 1, h => by
    obtain ⟨h1, h2⟩ := stepsD_ok b n hb ds i (by lia)
    have hi : ds.length - (i + 1) < ds.length := by lia
    have e : ds.drop (ds.length - (i + 1)) = ds.getD (ds.length - 1 - i) 0 :: ds.drop (ds.length - i) := by
      rw [List.drop_eq_getElem_cons hi, show ds.length - (i + 1) + 1 = ds.length - i by lia, List.getD_eq_getElem?_getD, show ds.length - 1 - i = ds.length - (i + 1) by lia, List.getElem?_eq_getElem hi]
      rfl
    rw [e]
    unfold stepsD
    generalize hp : stepsD b n ds i = p at h1 h2
    generalize ds.getD (ds.length - 1 - i) 0 = d
    simp only [List.reverse_append, List.reverse_cons, List.reverse_nil, List.nil_append, List.cons_append]
    show d + 2 ^ n * valT n (ds.drop (ds.length - i)) = b * ((p.2 * 2 ^ n + d) / b + 2 ^ n * valT n p.1.reverse) + _ ∧ _
    rw [h1]
    refine ⟨?_, Nat.mod_lt _ hb⟩
    have := Nat.div_add_mod (p.2 * 2 ^ n + d) b
    rw [Nat.mul_add, Nat.mul_add]
    have e2 : 2 ^ n * (b * valT n p.1.reverse) = b * (2 ^ n * valT n p.1.reverse) := by rw [Nat.mul_left_comm]
    have e3 : 2 ^ n * p.2 = p.2 * 2 ^ n := Nat.mul_comm _ _
    lia
theorem valT_digits (a n : Nat) (hn : 0 < n) : valT n (digitsT a n) = a := by
  have key : ∀ k a, a < 2 ^ (n * k) → valT n ((List.range k).map fun i => a / 2 ^ (n * i) % 2 ^ n) = a := by
    intro k
    induction k with
    | zero => intro a h; simp at h; simp [valT, h]
    | succ k ih =>
      intro a h
      rw [List.range_succ_eq_map, List.map_cons, List.map_map]
      show a / 2 ^ (n * 0) % 2 ^ n + 2 ^ n * valT n _ = a
      have e : (List.range k).map ((fun i => a / 2 ^ (n * i) % 2 ^ n) ∘ Nat.succ) = (List.range k).map fun i => (a / 2 ^ n) / 2 ^ (n * i) % 2 ^ n := by
        apply List.map_congr_left
        intro i _
        show a / 2 ^ (n * (i + 1)) % 2 ^ n = _
        rw [Nat.div_div_eq_div_mul, ← Nat.pow_add, show n + n * i = n * (i + 1) by rw [Nat.mul_add]; lia]
      rw [e, ih (a / 2 ^ n), Nat.mul_zero, Nat.pow_zero, Nat.div_one]
      · rw [Nat.add_comm]; exact Nat.div_add_mod a (2 ^ n)
      · rw [Nat.div_lt_iff_lt_mul (Nat.two_pow_pos _), ← Nat.pow_add, show n * k + n = n * (k + 1) by rw [Nat.mul_add]; lia]
        exact h
  refine key _ a ?_
  generalize hbl : (if a = 0 then 0 else a.log2 + 1) = bl
  have h1 : a < 2 ^ bl := by
    rw [← hbl]
    by_cases q : a = 0
    · simp [q]
    · rw [if_neg q]; exact Nat.lt_log2_self
  refine Nat.lt_of_lt_of_le h1 (Nat.pow_le_pow_right (by decide) ?_)
  have := Nat.lt_div_mul_add hn (a := bl + n - 1)
  rw [Nat.mul_comm] at this
  lia
theorem stepsD_end (a b n : Nat) (hn : 0 < n) (hb : 0 < b) : valT n (stepsD b n (digitsT a n) (digitsT a n).length).1.reverse = a / b ∧ (stepsD b n (digitsT a n) (digitsT a n).length).2 = a % b := by
  obtain ⟨h1, h2⟩ := stepsD_ok b n hb (digitsT a n) _ (Nat.le_refl _)
  rw [Nat.sub_self, List.drop_zero, valT_digits a n hn] at h1
  generalize stepsD b n (digitsT a n) (digitsT a n).length = p at h1 h2 ⊢
  subst h1
  constructor
  · rw [Nat.mul_add_div hb, Nat.div_eq_of_lt h2]; rfl
  · rw [Nat.mul_add_mod, Nat.mod_eq_of_lt h2]
theorem digitsT_lt (a n : Nat) : ∀ d ∈ digitsT a n, d < 2 ^ n := fun d hd => by
  obtain ⟨i, _, rfl⟩ := List.mem_map.mp hd
  exact Nat.mod_lt _ (Nat.two_pow_pos _)
theorem digitsT_len (a n : Nat) (hn : 0 < n) (ha : a < 2 ^ 60) : (digitsT a n).length ≤ 60 := by
  unfold digitsT
  rw [List.length_map, List.length_range]
  have hbl60 : (if a = 0 then 0 else a.log2 + 1) ≤ 60 := by
    rw [← intBits_nat]
    exact intBits_le (by rw [Int.natAbs_natCast]; exact ha)
  have : ((if a = 0 then 0 else a.log2 + 1) + n - 1) / n ≤ (60 * n) / n := by
    refine Nat.div_le_div_right ?_
    have : 60 - 1 ≤ (60 - 1) * n := Nat.le_mul_of_pos_right _ hn
    lia
  rwa [Nat.mul_div_cancel _ hn] at this

section
variable {c : Cx} {σ : Sto} {e : Expr} {x : Str} {px p p' pos : Pos} {n : Nat} {Q : Out → Sto → Prop} {body rest : List Stmt}
theorem S1.forRevC (ok : c.Ok n) (hxr : c.env.kindOf (.ofString "reversed") = some .globalImplicit) (hx : Storable c x)
    (h : EV c c.env e σ fun a σ₁ => ∃ (xs : List V) (I : Nat → Sto → Prop), a = .lst xs ∧ In I 0 σ₁ ∧ (∀ i τ, i < xs.length → I i τ → ST c body (sput τ x (.frz (xs.getD (xs.length - 1 - i) .none))) (LE (In I (i + 1)) (SQ c rest Q))) ∧ ∀ τ, I xs.length τ → ST c rest τ Q)
    (he : starEach [e] c.env = [(false, eval e c.env)]) (hs : ∀ v, foldedSetIterable (.Call (.Name (.ofString "reversed") p) [e] [] p') c.env v = pure v) :
    S1 c (.For (.Name x px) (.Call (.Name (.ofString "reversed") p) [e] [] p') body [] pos) σ (SQ c rest Q) :=
  S1.forRev ok hxr hx (h.mono fun a σ₁ hPat => by obtain ⟨xs, I, e1, h0, step, done⟩ := hPat; exact ⟨xs, In I, e1, h0, fun i σ hi hPat => by obtain ⟨τ, hI, hl⟩ := hPat; exact (step i τ hi hI).weaken hl.put, fun σ hPat => by obtain ⟨τ, hI, hl⟩ := hPat; exact (done τ hI).weaken hl⟩) he hs
end
theorem divpos_fn (a b : Nat) (hb : 0 < b) (ha' : a < 2 ^ 60) (hb' : b < 2 ^ 60) : Fn (nat_lit 83) 12 [.int a, .int b] (.tup [.int (a / b : Nat), .int (a % b : Nat)]) := by
  refine Fn.intro' (n := 11) (name := .ofString "_divmod_pos") (qual := .ofString "_divmod_pos") (params := a83) (body := b83) (scope := s83) (pm := .str (.ofString "cpy313._pylong") 351) (cdv := .ref (nat_lit 82)) (ps := [.ofString "a", .ofString "b"]) (fun _ => rfl) cd_divmod_pos (lensS rfl fun v => lens1 rfl fun u => rfl) rfl rfl (by decide) (by decide) rfl rfl rfl fun c C => ?_
  repeat walk_at "rr"
  refine EV.bitlen ?_ ?hb ?hl
  case hb => rfl
  case hl => rfl
  repeat walk_at "rr"
  refine ⟨_, rfl, ?_⟩
  rw [intBits_nat]
  generalize hn : (if b = 0 then 0 else b.log2 + 1) = n
  have hn0 : 0 < n := by rw [← hn, if_neg (by lia)]; lia
  have hn60 : n ≤ 60 := by
    rw [← hn, ← intBits_nat]
    exact intBits_le (by rw [Int.natAbs_natCast]; exact hb')
  have hbn : b < 2 ^ n := by
    rw [← hn, if_neg (by lia)]; exact Nat.lt_log2_self
  repeat walk_at "rr"
  refine Fn.callOk (int2digits_fn a n hn0 (by lia) ha') (C.ok.le (by decide)) ?_
  repeat walk_at "rr"
  refine ⟨by rw [sizeLine_eq]; simp, fun b0 => ?_⟩
  repeat walk_at "rr"
  refine S1.forRevC C.ok (C.kind rfl) (C.loc rfl) ?_ rfl (fun _ => rfl)
  repeat walk_at "rr"
  have hlen := digitsT_len a n hn0 ha'
  have hdl := digitsT_lt a n
  generalize hD : digitsT a n = D at hlen hdl
  have hq : ∀ i, ∀ d ∈ (stepsD b n D i).1, d < 2 ^ 60 := by
    intro i
    induction i with
    | zero => intro d hd; simp [stepsD] at hd
    | succ i ih =>
      intro d hd
      unfold stepsD at hd
      rcases List.mem_append.mp hd with hd | hd
      · exact ih d hd
      · rw [List.mem_singleton.mp hd]
        have hr : (stepsD b n D i).2 < b := by
          cases i with
          | zero => exact hb
          | succ i => exact Nat.mod_lt _ hb
        have hd2 : D.getD (D.length - 1 - i) 0 < 2 ^ n := by
          rw [List.getD_eq_getElem?_getD]
          cases q : D[D.length - 1 - i]? with
          | none => exact Nat.two_pow_pos _
          | some d => exact hdl d (List.mem_of_getElem? q)
        refine Nat.lt_of_lt_of_le ?_ (Nat.pow_le_pow_right (by decide : 0 < 2) hn60)
        rw [Nat.div_lt_iff_lt_mul hb]
        have h1 : ((stepsD b n D i).2 + 1) * 2 ^ n ≤ b * 2 ^ n := Nat.mul_le_mul_right _ hr
        rw [Nat.add_mul, Nat.one_mul] at h1
        rw [Nat.mul_comm b] at h1
        lia
  refine ⟨_, fun i τ => ∃ bq, τ = [(.ofString "b", .frz (.int b)), (.ofString "n", .frz (.int n)), (.ofString "r", .frz (.int (stepsD b n D i).2)), (.ofString "q_digits", .own bq (ivs (ns (stepsD b n D i).1)))], rfl, ⟨_, ⟨b0, rfl⟩, Le.cons rfl (Le.cons rfl (Le.cons rfl (Le.cons rfl (Le.nil _))))⟩, ?_, ?_⟩
  · rintro i τ hi ⟨bq, rfl⟩
    have hi' : i < D.length := by simpa using hi
    have hidx : D.length - 1 - i < D.length := by lia
    rw [show (ivs (ns D)).length = D.length from by simp, ivs_getD (by simpa using hidx), show (ns D).getD (D.length - 1 - i) 0 = ((D.getD (D.length - 1 - i) 0 : Nat) : Int) from by
      simp [List.getD_eq_getElem?_getD, hidx]]
    have hr : (stepsD b n D i).2 < b := by
      cases i with
      | zero => exact hb
      | succ i => exact Nat.mod_lt _ hb
    have hd2 : D.getD (D.length - 1 - i) 0 < 2 ^ n := by
      rw [List.getD_eq_getElem?_getD, List.getElem?_eq_getElem hidx]
      exact hdl _ (List.getElem_mem hidx)
    have hlq := stepsD_len b n D i
    have hstep : stepsD b n D (i + 1) = ((stepsD b n D i).1 ++ [((stepsD b n D i).2 * 2 ^ n + D.getD (D.length - 1 - i) 0) / b], ((stepsD b n D i).2 * 2 ^ n + D.getD (D.length - 1 - i) 0) % b) := rfl
    generalize stepsD b n D i = p at hr hlq hstep ⊢
    generalize D.getD (D.length - 1 - i) 0 = d at hd2 hstep ⊢
    have hpn : (2 : Nat) ^ n ≤ 2 ^ 60 := Nat.pow_le_pow_right (by decide) hn60
    refine ST.cons (S1.assign2 (C.loc rfl) (C.loc rfl) ?_ (by rfl) (by rfl))
    refine EV.f_div2n1n C.ok (C.kind rfl) ?_ rfl rfl
    repeat walk_at "rr"
    refine BinOk.lsh (by lia) (by lia) (by rw [Int.natAbs_natCast]; lia) ?_
    rw [Int.toNat_natCast, show ((p.2 : Nat) : Int) * (2 : Int) ^ n = ((p.2 * 2 ^ n : Nat) : Int) from by simp]
    repeat walk_at "rr"
    rw [show ((p.2 * 2 ^ n : Nat) : Int) + ((d : Nat) : Int) = ((p.2 * 2 ^ n + d : Nat) : Int) from by simp]
    have hx : p.2 * 2 ^ n + d < 2 ^ 200 := by
      have h1 : p.2 * 2 ^ n ≤ 2 ^ 60 * 2 ^ 60 := Nat.mul_le_mul (by lia) hpn
      lia
    refine Fn.callOk (div_fn (p.2 * 2 ^ n + d) b n hx hb hb') (C.ok.le (by decide)) ?_
    refine ⟨_, _, rfl, ?_⟩
    repeat walk_at "rr"
    refine ⟨bq, _, rfl, rfl, by rw [sizeLine_eq]; simp; lia, ?_⟩
    refine SQ.nx (ST.nil (LE.nx ⟨_, ⟨bq, rfl⟩, ?_⟩))
    rw [hstep]
    refine Le.cons rfl (Le.cons rfl (Le.cons rfl (Le.cons ?_ (Le.nil _))))
    rw [show ivs (ns (p.1 ++ [(p.2 * 2 ^ n + d) / b])) = ivs (ns p.1) ++ [V.int (((p.2 * 2 ^ n + d) / b : Nat) : Int)] from by simp [ivs, ns]]
    rfl
  · rintro τ ⟨bq, rfl⟩
    rw [show (ivs (ns D)).length = D.length from by simp]
    have hend := stepsD_end a b n hn0 hb
    rw [hD] at hend
    have hlq := stepsD_len b n D D.length
    have hq' := hq D.length
    generalize stepsD b n D D.length = p at hend hlq hq' ⊢
    obtain ⟨h1, h2⟩ := hend
    refine ST.cons (S1.reverse rfl (by rw [sizeLine_eq]; simp; lia) ?_ rfl)
    rw [show (ivs (ns p.1)).reverse = ivs (ns p.1.reverse) from by simp [ivs, ns]]
    repeat walk_at "rr"
    refine Fn.callOk (digits2int_fn p.1.reverse n (by lia) (fun d hd => hq' d (List.mem_reverse.mp hd)) (by rw [List.length_reverse]; lia)) (C.ok.le (by decide)) ?_
    repeat walk_at "rr"
    rw [h1, h2]
    refine ⟨by rw [sizeLine_eq]; simp, rfl⟩
theorem divmod_fn (a b : Nat) (ha : 0 < a) (hb : 0 < b) (ha' : a < 2 ^ 60) (hb' : b < 2 ^ 60) : Fn (nat_lit 90) 20 [.int a, .int b] (.tup [.int (a / b : Nat), .int (a % b : Nat)]) := by
  refine Fn.intro' (n := 19) (name := .ofString "int_divmod") (qual := .ofString "int_divmod") (params := a90) (body := b90) (scope := s90) (pm := .str (.ofString "cpy313._pylong") 351) (cdv := .ref (nat_lit 89)) (ps := [.ofString "a", .ofString "b"]) (fun _ => rfl) cd_int_divmod (lensS rfl fun v => lens1 rfl fun u => rfl) rfl rfl (by decide) (by decide) rfl rfl rfl fun c C => ?_
  repeat walk_at "rr"
  rw [show ((b : Int) == 0) = false from by rw [beq_eq_false_iff_ne]; lia]
  repeat walk_at "rr"
  rw [decide_eq_false (show ¬ ((b : Int) < 0) by lia)]
  repeat walk_at "rr"
  rw [decide_eq_false (show ¬ ((a : Int) < 0) by lia)]
  repeat walk_at "rr"
  refine Fn.callOk (divpos_fn a b hb ha' hb') (C.ok.le (by decide)) ?_
  rfl
end
section
theorem ns_b1set (P : Params) : nsIn (K P) mainGlobals (.ofString "b1_set") = some (some (.ref (nat_lit 105))) := by kernel_rfl
noncomputable def setL : List Int := [65024, 65025, 65026, 65027, 65028, 65029, 6150, 65030, 65031, 65032, 65033, 6155, 6156, 6157, 8203, 8204, 8205, 65034, 65035, 65036, 65037, 65038, 65039, 173, 847, 8288, 65279]
theorem o105_set (P : Params) (prog : Program) (w : World) : (o105 P).SetObjOf (intKind prog w) (fun k => setL.contains k) 27 := by
  have hes : ∃ es ep t, (o105 P).data = .set es ep t ∧ es.toList.map (·.1) = setL ∧ (es.toList.all fun e => match e.2 with | .int i _ => i == e.1 | _ => false) = true ∧ es.size = 27 ∧ t.fits es.size = true := ⟨_, _, _, rfl, rfl, rfl, rfl, rfl⟩
  obtain ⟨es, ep, t, hd, h1, h2, h3, h4⟩ := hes
  rw [List.all_eq_true] at h2
  have sh : ∀ e ∈ es.toList, ∃ t, e.2 = .int e.1 t := fun e he => by
    have := h2 e he
    obtain ⟨a, v⟩ := e
    cases v with
    | int i t => exact ⟨t, by simp only at this; rw [beq_iff_eq] at this; rw [this]⟩
    | _ => simp at this
  refine ⟨⟨rfl, rfl, rfl⟩, es, ep, t, hd, fun e he => ?_, fun k => ?_, h3, h4⟩
  · obtain ⟨t, ht⟩ := sh e he
    rw [ht]
    refine ⟨⟨e.1, by simp [intKind, Value.isInt], ?_⟩, rfl⟩
    have hm : e.1 ∈ setL := by rw [← h1]; exact List.mem_map_of_mem he
    show e.1 = hashInt e.1
    have : ∀ k ∈ setL, k = hashInt k := by decide +kernel
    exact this _ hm
  · rw [List.contains_iff_mem, ← h1, List.mem_map]
    constructor
    · rintro ⟨e, he, rfl⟩
      obtain ⟨t, ht⟩ := sh e he
      exact ⟨e, he, by rw [ht]; simp [intKind, Value.isInt]⟩
    · rintro ⟨e, he, hk⟩
      obtain ⟨t, ht⟩ := sh e he
      rw [ht] at hk
      exact ⟨e, he, by simpa [intKind, Value.isInt] using hk⟩
theorem setL_b1 (x : Nat) : setL.contains (x : Int) = b1 x := by
  have h1 : ∀ y ∈ setL, b1 y.toNat = true := by decide
  have h2 : ∀ y ∈ b1Codes, setL.contains (y : Int) = true := by decide
  have h3 : ∀ i : Fin 16, setL.contains ((65024 + i.val : Nat) : Int) = true := by decide
  rw [Bool.eq_iff_iff]
  constructor
  · intro h
    simpa using h1 _ (List.contains_iff_mem.mp h)
  · intro h
    unfold b1 at h
    rw [Bool.or_eq_true, Bool.and_eq_true, decide_eq_true_eq, decide_eq_true_eq, List.contains_iff_mem] at h
    rcases h with h | ⟨h, k⟩
    · exact h2 _ h
    · have := h3 ⟨x - 65024, by omega⟩
      rwa [show 65024 + (⟨x - 65024, by omega⟩ : Fin 16).val = x from by show 65024 + (x - 65024) = x; omega] at this
section
variable {c : Cx} {env : Env} {z hid : List (Addr × Obj)} {σ : Sto} {l : Expr} {p px : Pos} {n : Nat} {Post : V → Sto → Prop}
theorem EV.inB1 (ok : c.Ok n) (hx : env.kindOf (.ofString "b1_set") = some .globalImplicit) (h : EV c env l σ fun a σ₁ => ∃ i, a = .int i ∧ Post (.bool (setL.contains i)) σ₁) : EV c env (.Compare l [.In] [.Name (.ofString "b1_set") px] p) σ Post := fun hid z s H E => by
  refine wpAny_Compare1 (h.go H fun z₁ a σ₁ va s₁ hz₁ H₁ ha sm₁ hPat => ?_) (by with_unfolding_all rfl)
  obtain ⟨i, e, k⟩ := hPat
  subst e
  unfold VR at ha
  obtain ⟨t, rfl⟩ := ha
  obtain ⟨_, ek⟩ := H₁.envOk
  refine Name_function_global ek.kind hx (loadGlobal_global (mg := c.mg) (ek.globals ▸ ok.top.g.keeps H₁.base) (mg_of ok.kin ok.top.g (ns_b1set _)) ?_) (by decide)
  have hg : s₁.heap.get? (nat_lit 105) = some (o105 c.w.params) := (ok.kin.keeps H₁.base) _ _ rfl
  refine wpAny_inSet_of (knd := intKind c.prog c.w) (k := i) (by simp [intKind, Value.isInt]) rfl ((o105_set c.w.params c.prog c.w).setOf hg (by decide)) ?_
  exact ⟨z₁, _, σ₁, hz₁, H₁.toks, by unfold VR; rfl, sm₁, k⟩
end
theorem table_fn (x : Nat) : Fn (nat_lit 115) 2 [.str (S [x])] (.bool (b1 x)) := by
  refine Fn.intro' (n := 1) (name := .ofString "in_table_b1") (qual := .ofString "in_table_b1") (params := a115) (body := b115) (scope := s115) (pm := .str (.ofString "cpy313.stringprep") 444) (cdv := .ref (nat_lit 114)) (ps := [.ofString "code"]) (fun _ => rfl) cd_in_table_b1 (lens1 rfl fun v => rfl) rfl rfl (by decide) (by decide) rfl rfl rfl fun c C => ?_
  refine ST.cons (S1.ret (EV.inB1 C.ok (C.kind rfl) ?_))
  repeat walk_at "rr"
  refine CallOk.ord ?_
  repeat walk_at "rr"
  refine ⟨_, rfl, ?_⟩
  show Out.ret _ = Out.ret _
  rw [setL_b1]
end
section
open PySem PySem.W PyProof.Rows
/-! the sort of few items, with no machine in sight -/
section
variable {O : KeyOrd} {n : Nat} {key : Nat → O.α}
/-- what a sort's plan ends with, when each question is answered by the order -/
noncomputable def Tri (key : Nat → O.α) (n : Nat) {α : Type} (t : KasT α) (R : α → Prop) : Prop :=
  ∀ (cmp : Nat → Nat → (Bool → Shared → Prop) → Shared → Prop) (Q : α → Shared → Prop) (s : Shared), (∀ i j C, i < n → j < n → C (O.blt (key i) (key j)) s → cmp i j C s) → (∀ a, R a → Q a s) → t.kasWp cmp Q s
theorem Tri.ret {α : Type} {a : α} {R : α → Prop} (h : R a) : Tri key n (.ret a) R := fun _ _ _ _ hq => hq a h
theorem Tri.ask {α : Type} {i j : Nat} {k : Bool → KasT α} {R : α → Prop} (hi : i < n) (hj : j < n) (h : Tri key n (k (O.blt (key i) (key j))) R) : Tri key n (.ask i j k) R := fun cmp Q s hc hq => hc i j _ hi hj (h cmp Q s hc hq)
theorem Tri.mono {α : Type} {t : KasT α} {R R' : α → Prop} (h : Tri key n t R) (hr : ∀ a, R a → R' a) : Tri key n t R' := fun cmp Q s hc hq => h cmp Q s hc fun a ha => hq a (hr a ha)
theorem Tri.bind {α β : Type} {t : KasT α} {f : α → KasT β} {R : α → Prop} {R' : β → Prop} (h : Tri key n t R) (hf : ∀ a, R a → Tri key n (f a) R') : Tri key n (t.bind f) R' := fun cmp Q s hc hq => by
  rw [KasT.kasWp_bind]
  exact h cmp _ s hc fun a ha => hf a ha cmp Q s hc hq
noncomputable abbrev At_ (key : Nat → O.α) (p : Array Nat) (i : Nat) : O.α := key (p.getD i 0)
structure PP_ (n : Nat) (p : Array Nat) : Prop where
  size : p.size = n
  perm : p.Perm (List.range n).toArray
theorem PP_.lt {p : Array Nat} (h : PP_ n p) (h0 : 0 < n) (i : Nat) : p.getD i 0 < n := by
  by_cases hi : i < p.size
  · have e : p.getD i 0 = p[i] := by simp [Array.getD, hi]
    rw [e]
    have h1 : p[i] ∈ p.toList := by simp
    have h2 := (Array.perm_iff_toList_perm.mp h.perm).mem_iff.mp h1
    simpa using h2
  · have e : p.getD i 0 = 0 := by simp [Array.getD, hi]
    rw [e]; exact h0
theorem getD_of {p q : Array Nat} {i j : Nat} (h : p[i]? = q[j]?) : p.getD i 0 = q.getD j 0 := by
  rw [Array.getD_eq_getD_getElem?, Array.getD_eq_getD_getElem?, h]
theorem PP_.rev {p : Array Nat} (h : PP_ n p) (i j : Nat) : PP_ n (kas_rev p i j) := ⟨by rw [kas_rev_size]; exact h.size, (mirror_perm ..).trans h.perm⟩
theorem PP_.bub {p : Array Nat} (h : PP_ n p) (i j : Nat) : PP_ n (bubble p i j) := ⟨by rw [bubble_size]; exact h.size, (bubble_perm ..).trans h.perm⟩
theorem A_rev {p : Array Nat} (h : PP_ n p) {i j : Nat} (hj : j ≤ n) (k : Nat) : At_ key (kas_rev p i j) k = if i ≤ k ∧ k < j then At_ key p (i + j - 1 - k) else At_ key p k := by
  have := getElem?_mirror_all (xs := p) (i := i) (j := j) (by rw [h.size]; exact hj) k
  unfold At_ kas_rev
  by_cases q : i ≤ k ∧ k < j
  · rw [if_pos q] at this ⊢; rw [getD_of this]
  · rw [if_neg q] at this ⊢; rw [getD_of this]
theorem A_bub {p : Array Nat} (h : PP_ n p) {k d : Nat} (hk : k < n) (hd : d ≤ k) (x : Nat) : At_ key (bubble p k d) x = if x = k - d then At_ key p k else if k - d < x ∧ x ≤ k then At_ key p (x - 1) else At_ key p x := by
  have := getElem?_bubble (xs := p) (src := k) (by rw [h.size]; exact hk) d hd x
  unfold At_
  by_cases q : x = k - d
  · rw [if_pos q] at this ⊢; rw [getD_of this]
  · rw [if_neg q] at this ⊢
    by_cases q2 : k - d < x ∧ x ≤ k
    · rw [if_pos q2] at this ⊢; rw [getD_of this]
    · rw [if_neg q2] at this ⊢; rw [getD_of this]
noncomputable def Asc (key : Nat → O.α) (p : Array Nat) (m : Nat) : Prop := ∀ i j, i ≤ j → j < m → O.kle (At_ key p i) (At_ key p j)
noncomputable def Dsc (key : Nat → O.α) (p : Array Nat) (m : Nat) : Prop := ∀ i j, i ≤ j → j < m → O.kle (At_ key p j) (At_ key p i)
theorem Asc.succ {p : Array Nat} {m : Nat} (h : Asc key p m) (h1 : 1 ≤ m) (hm : O.kle (At_ key p (m - 1)) (At_ key p m)) : Asc key p (m + 1) := fun i j hi hj => by
  by_cases e : j < m
  · exact h i j hi e
  · have : j = m := by lia
    subst this
    by_cases e2 : i = j
    · subst e2; exact KeyOrd.kle_refl _
    · exact KeyOrd.kle_trans (h i (j - 1) (by lia) (by lia)) hm
theorem Dsc.succ {p : Array Nat} {m : Nat} (h : Dsc key p m) (h1 : 1 ≤ m) (hm : O.kle (At_ key p m) (At_ key p (m - 1))) : Dsc key p (m + 1) := fun i j hi hj => by
  by_cases e : j < m
  · exact h i j hi e
  · have : j = m := by lia
    subst this
    by_cases e2 : i = j
    · subst e2; exact KeyOrd.kle_refl _
    · exact KeyOrd.kle_trans hm (h i (j - 1) (by lia) (by lia))
theorem Dsc.same {p q : Array Nat} {m : Nat} (h : Dsc key p m) (e : ∀ x, At_ key q x = At_ key p x) : Dsc key q m := fun i j hi hj => by rw [e, e]; exact h i j hi hj
theorem tri_asc {p : Array Nat} (hp : PP_ n p) : ∀ (f m : Nat), 1 ≤ m → m + f ≤ n → Asc key p m → Tri key n (kas_asc p f m) fun m' => m ≤ m' ∧ m' ≤ m + f ∧ Asc key p m' ∧ (m' = m + f ∨ O.klt (At_ key p m') (At_ key p (m' - 1)))
  | 0, m, h1, hf, h => .ret ⟨Nat.le_refl _, Nat.le_refl _, h, .inl rfl⟩
  | f + 1, m, h1, hf, h => by
    refine Tri.ask (hp.lt (by lia) _) (hp.lt (by lia) _) ?_
    by_cases e : O.klt (At_ key p m) (At_ key p (m - 1))
    · rw [show O.blt (key (p.getD m 0)) (key (p.getD (m - 1) 0)) = true from e]
      exact .ret ⟨Nat.le_refl _, by lia, h, .inr e⟩
    · have e' := KeyOrd.kle_of_not_klt e
      rw [show O.blt (key (p.getD m 0)) (key (p.getD (m - 1) 0)) = false from e']
      refine (tri_asc hp f (m + 1) (by lia) (by lia) (h.succ h1 e')).mono fun m' hPat => by obtain ⟨a, b, c, d⟩ := hPat; exact ⟨by lia, by lia, c, d.imp (fun h => by lia) id⟩
theorem rev_same {p : Array Nat} (hp : PP_ n p) {m q : Nat} (hm : m ≤ n) (hq : q + 1 ≤ m) (heq : ∀ x, m - (q + 1) ≤ x → x < m → At_ key p x = At_ key p (m - 1)) (x : Nat) : At_ key (kas_rev p (m - (q + 1)) m) x = At_ key p x := by
  rw [A_rev hp hm]
  by_cases e : m - (q + 1) ≤ x ∧ x < m
  · rw [if_pos e, heq _ (by lia) (by lia), heq _ e.1 e.2]
  · rw [if_neg e]
theorem tri_desc : ∀ (f m q : Nat) (p : Array Nat), PP_ n p → 1 ≤ m → m + f ≤ n → q + 1 ≤ m → Dsc key p m → (∀ x, m - (q + 1) ≤ x → x < m → At_ key p x = At_ key p (m - 1)) →
    Tri key n (kas_desc f p m q) fun r => PP_ n r.1 ∧ m ≤ r.2.1 ∧ r.2.1 ≤ m + f ∧ r.2.2 + 1 ≤ r.2.1 ∧ Dsc key r.1 r.2.1 ∧ ∀ x, r.2.1 - (r.2.2 + 1) ≤ x → x < r.2.1 → At_ key r.1 x = At_ key r.1 (r.2.1 - 1) := by
  intro f
  induction f with
  | zero =>
    intro m q p hp h1 hf hq h heq
    exact .ret ⟨hp, Nat.le_refl _, Nat.le_refl _, hq, h, heq⟩
  | succ f ih =>
    intro m q p hp h1 hf hq h heq
    have one : ∀ p : Array Nat, ∀ x, m + 1 - (0 + 1) ≤ x → x < m + 1 → At_ key p x = At_ key p (m + 1 - 1) := fun p x h1 h2 => by
      have : x = m := by lia
      rw [this]; rfl
    refine Tri.ask (hp.lt (by lia) _) (hp.lt (by lia) _) ?_
    by_cases e : O.klt (At_ key p m) (At_ key p (m - 1))
    · rw [show O.blt (key (p.getD m 0)) (key (p.getD (m - 1) 0)) = true from e]
      simp only [if_true]
      by_cases hq0 : q > 0
      · rw [if_pos hq0]
        have same := rev_same hp (by lia) hq heq
        refine (ih (m + 1) 0 _ (hp.rev _ _) (by lia) (by lia) (by lia) ((h.same same).succ h1 (by rw [same, same]; exact KeyOrd.kle_of_klt e)) (one _)).mono fun r hPat => by obtain ⟨a, b, c, d⟩ := hPat; exact ⟨a, Nat.le_trans (Nat.le_succ m) b, Nat.le_trans c (by lia), d⟩
      · rw [if_neg hq0]
        exact (ih (m + 1) 0 p hp (by lia) (by lia) (by lia) (h.succ h1 (KeyOrd.kle_of_klt e)) (one _)).mono fun r hPat => by obtain ⟨a, b, c, d⟩ := hPat; exact ⟨a, Nat.le_trans (Nat.le_succ m) b, Nat.le_trans c (by lia), d⟩
    · have e' := KeyOrd.kle_of_not_klt e
      rw [show O.blt (key (p.getD m 0)) (key (p.getD (m - 1) 0)) = false from e']
      simp only [Bool.false_eq_true, if_false]
      refine Tri.ask (hp.lt (by lia) _) (hp.lt (by lia) _) ?_
      by_cases e2 : O.klt (At_ key p (m - 1)) (At_ key p m)
      · rw [show O.blt (key (p.getD (m - 1) 0)) (key (p.getD m 0)) = true from e2]
        exact .ret ⟨hp, Nat.le_refl _, Nat.le_add_right _ _, hq, h, heq⟩
      · have e2' := KeyOrd.kle_of_not_klt e2
        rw [show O.blt (key (p.getD (m - 1) 0)) (key (p.getD m 0)) = false from e2']
        have eq : At_ key p m = At_ key p (m - 1) := KeyOrd.kle_antisymm e2' e'
        refine (ih (m + 1) (q + 1) p hp (by lia) (by lia) (by lia) (h.succ h1 e2') fun x hx1 hx2 => ?_).mono fun r hPat => by obtain ⟨a, b, c, d⟩ := hPat; exact ⟨a, Nat.le_trans (Nat.le_succ m) b, Nat.le_trans c (by lia), d⟩
        by_cases hx : x = m
        · rw [hx]; rfl
        · rw [heq x (by lia) (by lia), show m + 1 - 1 = m from rfl, eq]
noncomputable abbrev Done (key : Nat → O.α) (n : Nat) (r : Nat × Array Nat) : Prop := PP_ n r.2 ∧ 1 ≤ r.1 ∧ r.1 ≤ n ∧ Asc key r.2 r.1
theorem tri_tail3 {p : Array Nat} (hp : PP_ n p) {m : Nat} (h1 : 1 ≤ m) (hm : m ≤ n) (h : Dsc key p m) : Tri key n (kas_tail3 m n p) (Done key n) := by
  have hs : Asc key (kas_rev p 0 m) m := fun i j hi hj => by
    rw [A_rev hp hm, A_rev hp hm, if_pos (by lia), if_pos (by lia)]
    exact h _ _ (by lia) (by lia)
  refine Tri.bind (tri_asc (hp.rev 0 m) (n - m) m h1 (by lia) hs) fun m' hPat => by obtain ⟨a, b, c, _⟩ := hPat; exact .ret ⟨hp.rev 0 m, by show 1 ≤ m'; lia, by show m' ≤ n; lia, c⟩
theorem tri_descPart {p : Array Nat} (hp : PP_ n p) {m : Nat} (h1 : 1 ≤ m) (hm : m + 1 ≤ n) (h : Dsc key p (m + 1)) : Tri key n (kas_descPart m n p) (Done key n) := by
  refine Tri.bind (tri_desc (n - (m + 1)) (m + 1) 0 p hp (by lia) (by lia) (by lia) h fun x h2 h3 => by rw [show x = m by lia]; rfl) fun r hPat => ?_
  obtain ⟨a, b, c, d, e, f⟩ := hPat
  by_cases hq : r.2.2 > 0
  · rw [if_pos hq]
    exact tri_tail3 (a.rev _ _) (by lia) (by lia) (e.same (rev_same a (by lia) d f))
  · rw [if_neg hq]
    exact tri_tail3 a (by lia) (by lia) e
theorem tri_count {p : Array Nat} (hp : PP_ n p) (hn : 1 ≤ n) : Tri key n (kas_count n p) (Done key n) := by
  refine Tri.bind (tri_asc hp (n - 1) 1 (Nat.le_refl _) (by lia) fun i j hi hj => by
    have e1 : i = j := by lia
    rw [e1]; exact KeyOrd.kle_refl _) fun m ⟨a, b, c, d⟩ => ?_
  by_cases hmn : m = n
  · subst hmn
    rw [if_pos (by simp)]
    exact .ret ⟨hp, a, Nat.le_refl _, c⟩
  rw [if_neg (by simpa using hmn)]
  have hlt : O.klt (At_ key p m) (At_ key p (m - 1)) := d.elim (fun e => by lia) id
  by_cases hm1 : m > 1
  · rw [if_pos hm1]
    refine Tri.ask (hp.lt (by lia) _) (hp.lt (by lia) _) ?_
    by_cases e : O.klt (At_ key p 0) (At_ key p (m - 1))
    · rw [show O.blt (key (p.getD 0 0)) (key (p.getD (m - 1) 0)) = true from e]
      exact .ret ⟨hp, a, by show m ≤ n; lia, c⟩
    · have e' := KeyOrd.kle_of_not_klt e
      rw [show O.blt (key (p.getD 0 0)) (key (p.getD (m - 1) 0)) = false from e']
      simp only [Bool.false_eq_true, if_false]
      have all : ∀ x, x < m → At_ key p x = At_ key p (m - 1) := fun x hx => KeyOrd.kle_antisymm (c x (m - 1) (by lia) (by lia)) (KeyOrd.kle_trans e' (c 0 x (by lia) hx))
      have same : ∀ x, At_ key (kas_rev p 0 m) x = At_ key p x := fun x => by
        rw [A_rev hp (by lia)]
        by_cases q : 0 ≤ x ∧ x < m
        · rw [if_pos q, all _ (by lia), all _ q.2]
        · rw [if_neg q]
      refine tri_descPart (hp.rev 0 m) a (by lia) ?_
      have hd : Dsc key p m := fun i j hi hj => by rw [all i (by lia), all j hj]; exact KeyOrd.kle_refl _
      exact (hd.succ a (KeyOrd.kle_of_klt hlt)).same same
  · rw [if_neg hm1]
    have e1 : m = 1 := by lia
    subst e1
    refine tri_descPart hp (Nat.le_refl _) (by lia) ?_
    have hd : Dsc key p 1 := fun i j hi hj => by
      have e1 : i = j := by lia
      rw [e1]; exact KeyOrd.kle_refl _
    exact hd.succ (Nat.le_refl _) (KeyOrd.kle_of_klt hlt)
theorem tri_place {p : Array Nat} (hp : PP_ n p) {k : Nat} (hk : k < n) (hs : Asc key p k) : ∀ (f l r : Nat), l ≤ r → r ≤ k → r - l ≤ f → (∀ x, x < l → O.kle (At_ key p x) (At_ key p k)) → (∀ x, r ≤ x → x < k → O.klt (At_ key p k) (At_ key p x)) →
    Tri key n (kas_place p k f l r) fun l' => l' ≤ k ∧ (∀ x, x < l' → O.kle (At_ key p x) (At_ key p k)) ∧ ∀ x, l' ≤ x → x < k → O.klt (At_ key p k) (At_ key p x)
  | 0, l, r, h1, h2, h3, a, b => .ret ⟨by lia, a, fun x hx1 hx2 => b x (by lia) hx2⟩
  | f + 1, l, r, h1, h2, h3, a, b => by
    unfold kas_place
    by_cases q : l ≥ r
    · rw [if_pos q]
      exact .ret ⟨by lia, a, fun x hx1 hx2 => b x (by lia) hx2⟩
    rw [if_neg q]
    refine Tri.ask (hp.lt (by lia) _) (hp.lt (by lia) _) ?_
    by_cases e : O.klt (At_ key p k) (At_ key p ((l + r) / 2))
    · rw [show O.blt (key (p.getD k 0)) (key (p.getD ((l + r) / 2) 0)) = true from e]
      exact tri_place hp hk hs f l ((l + r) / 2) (by lia) (by lia) (by lia) a fun x hx1 hx2 => KeyOrd.klt_of_klt_of_kle e (hs _ x hx1 hx2)
    · have e' := KeyOrd.kle_of_not_klt e
      rw [show O.blt (key (p.getD k 0)) (key (p.getD ((l + r) / 2) 0)) = false from e']
      simp only [Bool.false_eq_true, if_false]
      exact tri_place hp hk hs f ((l + r) / 2 + 1) r (by lia) h2 (by lia) (fun x hx => KeyOrd.kle_trans (hs x ((l + r) / 2) (by lia) (by lia)) e') b
theorem tri_bin : ∀ (f k : Nat) (p : Array Nat), PP_ n p → 1 ≤ k → k + f = n → Asc key p k → Tri key n (kas_bin f p k) fun p' => PP_ n p' ∧ Asc key p' n := by
  intro f
  induction f with
  | zero =>
    intro k p hp h1 hf h
    exact .ret ⟨hp, by rw [← hf]; exact h⟩
  | succ f ih =>
    intro k p hp h1 hf h
    refine Tri.bind (tri_place hp (by lia) h k 0 k (by lia) (Nat.le_refl _) (by lia) (fun x hx => by lia) fun x hx1 hx2 => by lia) fun l hPat => ?_
    obtain ⟨hl, ha, hb⟩ := hPat
    refine ih (k + 1) _ (hp.bub _ _) (by lia) (by lia) fun i j hi hj => ?_
    have A := A_bub (key := key) hp (k := k) (d := k - l) (by lia) (by lia)
    rw [A, A, show k - (k - l) = l by lia]
    by_cases e1 : i = l
    · rw [if_pos e1]
      by_cases e2 : j = l
      · rw [if_pos e2]; exact KeyOrd.kle_refl _
      · rw [if_neg e2, if_pos (by lia)]
        exact KeyOrd.kle_of_klt (hb _ (by lia) (by lia))
    · rw [if_neg e1]
      by_cases e2 : j = l
      · rw [if_pos e2, if_neg (by lia)]
        exact ha i (by lia)
      · rw [if_neg e2]
        by_cases e3 : l < i ∧ i ≤ k
        · rw [if_pos e3, if_pos (by lia)]
          exact h _ _ (by lia) (by lia)
        · rw [if_neg e3]
          by_cases e4 : l < j ∧ j ≤ k
          · rw [if_pos e4]; exact h _ _ (by lia) (by lia)
          · rw [if_neg e4]; exact h _ _ hi (by lia)
theorem tri_sort (hn : 1 ≤ n) : Tri key n (kas_sort n) fun p => PP_ n p ∧ Asc key p n := by
  refine Tri.bind (tri_count (p := (List.range n).toArray) ⟨by simp, .refl _⟩ hn) fun r hPat => ?_
  obtain ⟨a, b, c, d⟩ := hPat
  by_cases h : r.1 < n
  · rw [if_pos h, show max r.1 1 = r.1 by lia]
    exact tri_bin (n - r.1) r.1 r.2 a b (by lia) d
  · rw [if_neg h]
    have : r.1 = n := by lia
    exact .ret ⟨a, by rw [← this]; exact d⟩
end
end
section
section
variable {prog : Program} {w : World} {A : Around} {E : Value → Shared → Prop} {s : Shared}
theorem lex_step {xs ys : List Nat} {i : Nat} (h1 : i < xs.length) (h2 : i < ys.length) : lexlt (xs.drop i) (ys.drop i) = if xs[i] = ys[i] then lexlt (xs.drop (i + 1)) (ys.drop (i + 1)) else decide (xs[i] < ys[i]) := by
  rw [List.drop_eq_getElem_cons h1, List.drop_eq_getElem_cons h2]
  rfl
theorem lex_end {xs ys : List Nat} {i : Nat} (h : xs.length ≤ i ∨ ys.length ≤ i) (hi : i ≤ xs.length) (hj : i ≤ ys.length) : lexlt (xs.drop i) (ys.drop i) = decide (xs.length < ys.length) := by
  rcases Nat.lt_or_ge i xs.length with h1 | h1
  · have h2 : ys.length ≤ i := h.elim (fun q => by lia) id
    rw [List.drop_eq_nil_of_le h2, List.drop_eq_getElem_cons h1]
    unfold lexlt
    rw [decide_eq_false (by lia)]
  · rw [List.drop_eq_nil_of_le h1]
    rcases Nat.lt_or_ge i ys.length with h2 | h2
    · rw [List.drop_eq_getElem_cons h2]; unfold lexlt; rw [decide_eq_true (by lia)]
    · rw [List.drop_eq_nil_of_le h2]; unfold lexlt; rw [decide_eq_false (by lia)]
theorem ints_get {vs : List Value} {xs : List Nat} (h : IntsAre vs (ns xs)) {i : Nat} (hi : i < xs.length) : ∃ t, vs[i]? = some (.int (xs[i] : Nat) t) := by
  have h1 := VRs.get (P := fun _ _ => True) (VRs.ofInts h) (i := i) (x := .int ((xs[i] : Nat) : Int)) (by simp [ivs, ns, hi])
  obtain ⟨v, e, hv⟩ := h1
  unfold VR at hv
  obtain ⟨t, rfl⟩ := hv
  exact ⟨t, e⟩
theorem ints_len {vs : List Value} {xs : List Nat} (h : IntsAre vs (ns xs)) : vs.length = xs.length := by rw [h.length]; simp
theorem lt_loop (l b : Addr) (vs us : List Value) (n n2 : Nat) (xs ys : List Nat) (hx : IntsAre vs (ns xs)) (hy : IntsAre us (ns ys)) : ∀ k i : Nat, xs.length - i = k → i ≤ xs.length → i ≤ ys.length →
    Meets (Builtin.«list.__eq__.loop» ⟨[.ref l, .ref b, rawInt i, rawInt 0], []⟩) (fun _ R s => s.heap.get? l = some (lobj vs n) ∧ s.heap.get? b = some (lobj us n2) ∧ R (.ok (.ret (.bool (lexlt (xs.drop i) (ys.drop i))))) s) := by
  have fin : ∀ i : Nat, i ≤ xs.length → i ≤ ys.length → (xs.length ≤ i ∨ ys.length ≤ i) →
      Meets (Builtin.«list.__eq__.loop» ⟨[.ref l, .ref b, rawInt i, rawInt 0], []⟩) (fun _ R s => s.heap.get? l = some (lobj vs n) ∧ s.heap.get? b = some (lobj us n2) ∧ R (.ok (.ret (.bool (lexlt (xs.drop i) (ys.drop i))))) s) := by
    intro i h1 h2 hor prog w A R s h
    obtain ⟨hp, g, d, tk, os⟩ := s; obtain ⟨hl, hb, h⟩ := h
    rw [lex_end hor h1 h2, ← ints_len hx, ← ints_len hy] at h
    wp_walk using AutoSeq1.wpAny_loadPart' hl, AutoSeq1.wpAny_loadPart' hb
    rcases hor with q | q
    · have e1 : (vs.toArray)[((i : Nat) : Int).toNat]? = none := by have := ints_len hx; simp; lia
      rw [e1]
      wp_walk using AutoSeq1.wpAny_loadPart' hl, AutoSeq1.wpAny_loadPart' hb
      exact h
    · have e1 : (us.toArray)[((i : Nat) : Int).toNat]? = none := by have := ints_len hy; simp; lia
      rw [e1]
      cases (vs.toArray)[((i : Nat) : Int).toNat]? <;>
      · wp_walk using AutoSeq1.wpAny_loadPart' hl, AutoSeq1.wpAny_loadPart' hb
        exact h
  intro k
  induction k with
  | zero =>
    intro i hk h1 h2
    exact fin i h1 h2 (.inl (by lia))
  | succ k ih =>
    intro i hk h1 h2
    by_cases hq : ys.length ≤ i
    · exact fin i h1 h2 (.inr hq)
    intro prog w A R s h
    obtain ⟨hp, g, d, tk, os⟩ := s; obtain ⟨hl, hb, h⟩ := h
    have i1 : i < xs.length := by lia
    have i2 : i < ys.length := by lia
    rw [lex_step i1 i2] at h
    obtain ⟨t, ht⟩ := ints_get hx i1
    obtain ⟨u, hu⟩ := ints_get hy i2
    wp_walk using AutoSeq1.wpAny_loadPart' hl, AutoSeq1.wpAny_loadPart' hb
    have e1 : (vs.toArray)[((i : Nat) : Int).toNat]? = some (.int (xs[i] : Nat) t) := by simpa using ht
    have e2 : (us.toArray)[((i : Nat) : Int).toNat]? = some (.int (ys[i] : Nat) u) := by simpa using hu
    have hc : ((i : Int) + 1) = ((i + 1 : Nat) : Int) := by push_cast; rfl
    rw [e1, e2]
    refine wpAny_bind (wpAny_eqBool_int ?_)
    by_cases he : xs[i] = ys[i]
    · rw [if_pos he] at h
      rw [show (((xs[i] : Nat) : Int) == ((ys[i] : Nat) : Int)) = true from by simp [he]]
      wp_walk
      rw [hc]
      exact ⟨plainId_quiet MeetsSeq3.plain_eq_loop _, codeAny_builtin MeetsSeq3.entry_eq_loop (by
        rw [Around.under_plainId MeetsSeq3.plain_eq_loop _]
        exact ih (i + 1) (by lia) (by lia) (by lia) prog w A R _ ⟨hl, hb, h⟩)⟩
    · rw [if_neg he] at h
      rw [show (((xs[i] : Nat) : Int) == ((ys[i] : Nat) : Int)) = false from by rw [beq_eq_false_iff_ne]; lia]
      wp_walk using AutoSeq1.wpAny_loadPart' hl, AutoSeq1.wpAny_loadPart' hb
      rw [e1, e2]
      show wpAny _ _ (do let r ← richCompare .Lt (.int (xs[i] : Nat) t) (.int (ys[i] : Nat) u); ret r) _ _ _
      refine wpAny_bind (wpAny_richCompare_same (op := .Lt) (typeIs_int _ _ _) (typeIs_int _ _ _) slot_int_lt (call_int_lt ⟨by simp, ?_⟩))
      refine wpAny_pure ?_
      show R (.ok (.ret (.bool (decide (((xs[i] : Nat) : Int) < ((ys[i] : Nat) : Int)))))) _
      rw [show decide (((xs[i] : Nat) : Int) < ((ys[i] : Nat) : Int)) = decide (xs[i] < ys[i]) from by simp]
      exact h
theorem list_lt_meets (l b : Addr) (vs us : List Value) (n n2 : Nat) (xs ys : List Nat) (hx : IntsAre vs (ns xs)) (hy : IntsAre us (ns ys)) :
    Meets (Builtin.«list.__lt__» ⟨[.ref l, .ref b], []⟩) (fun _ R s => s.heap.get? l = some (lobj vs n) ∧ s.heap.get? b = some (lobj us n2) ∧ R (.ok (.ret (.bool (lexlt xs ys)))) s) := by
  intro prog w A R s h
  obtain ⟨hp, g, d, tk, os⟩ := s; obtain ⟨hl, hb, h⟩ := h
  have f3 := AutoSeq1.sub_list_list
  wp_walk using AutoSeq1.wpAny_loadPart' hl, AutoSeq1.wpAny_loadPart' hb
  exact ⟨plainId_quiet MeetsSeq3.plain_eq_loop _, codeAny_builtin MeetsSeq3.entry_eq_loop (by
    rw [Around.under_plainId MeetsSeq3.plain_eq_loop _]
    exact lt_loop l b vs us n n2 xs ys hx hy _ 0 rfl (Nat.zero_le _) (Nat.zero_le _) prog w A R _ ⟨hl, hb, h⟩)⟩
theorem keyLt_lists {l b : Addr} {vs us : List Value} {n n2 : Nat} {xs ys : List Nat} {Q : Bool → Shared → Prop} (hu : A.units < cLine) (hl : s.heap.get? l = some (lobj vs n)) (hb : s.heap.get? b = some (lobj us n2)) (hx : IntsAre vs (ns xs)) (hy : IntsAre us (ns ys))
    (h : Q (lexlt xs ys) s) : wpAny (model prog w) A (keyLt' oneType' (.ref l) (.ref b)) Q E s := by
  rw [keyLt'_oneType, oneLt'_eq]
  simp only [if_true]
  refine wpAny_bind (wpAny_cRoomFor hu ?_)
  refine wpAny_bind (wpAny_callSpecialIfBound?_slot (isL hl).typeIs F.slot_list_lt (call_meets F.slot_list_lt (isL hl).typeIs F.entry_list_lt (F.args_list_lt_2 _ _) (list_lt_meets l b vs us n n2 xs ys hx hy) ⟨hl, hb, ?_⟩))
  exact wpAny_truthy_bool h
end
noncomputable def lexOrd : KeyOrd where
  α := List Nat
  blt := lexlt
  irrefl := lexlt_irrefl
  trans a b c h1 h2 := by
    cases h : lexlt a c with
    | true => rfl
    | false =>
      have h3 := lexlt_asymm _ _ h2
      -- c ≤ a and b ≤ c: so b ≤ a, against a < b
      have := lexlt_trans _ _ _ h3 h
      first
      | (rw [h1] at this; cases this)
      | (have h4 := lexlt_trans _ _ _ h h3; rw [h1] at h4; cases h4)
  negTrans a b c h := by
    cases h1 : lexlt a b with
    | true => exact .inl rfl
    | false =>
      cases h2 : lexlt b c with
      | true => exact .inr rfl
      | false =>
        exfalso
        first
        | (have h4 := lexlt_trans _ _ _ h1 h2; rw [h] at h4; cases h4)
        | (have h4 := lexlt_trans _ _ _ h2 h1; rw [h] at h4; cases h4)
  total := lexlt_total
end
section
section
variable {prog : Program} {w : World} {A : Around} {E : Value → Shared → Prop} {s : Shared}
/-- sorted, where there is nothing to sort -/
theorem sorted_short {h₀ : Heap} {L l : Addr} {m : Str → Option Value} {news : List (Addr × Obj)} {vs : List Value} {Q : Value → Shared → Prop} (F : Fr h₀ L s.heap m) (N : News h₀ L s.heap news) (hl : s.heap.IsList l vs.toArray) (h2 : vs.length < 2)
    (h : ∀ D c h', Fr h₀ L h' m → News h₀ L h' ((D, lobj vs c) :: news) → (∀ q ∈ news, q.1 < D) → Q (.ref D) { s with heap := h' }) : wpAny (model prog w) A (call (.builtin "sorted") [.ref l]) Q E s := by
  have hls : vs.length ≤ sizeLine := by rw [sizeLine_eq]; lia
  refine Calls.call_function_entry kind_sorted plain_sorted entry_sorted (args_sorted1 _) ?_
  unfold Builtin.«sorted»
  refine wpAny_bind (m := checkCount "sorted" 1 1 _) (wpAny_pure ?_)
  refine wpAny_bind (collect_list hl ?_ hls)
  refine wpAny_bind (wpAny_newList ?_ hls)
  generalize hg1 : (s.heap.push (seqObj "list" #[] 0)).update s.heap.objs.size (Obj.mapSeq (· ++ vs.toArray)) = g1
  have hsz : g1.objs.size = s.heap.objs.size + 1 := by rw [← hg1, Heap.size_update, size_push']
  have keep1 : ∀ b o, s.heap.get? b = some o → g1.get? b = some o := fun b o q => by
    have hlt : b < s.heap.objs.size := Heap.lt_size q
    rw [← hg1, Heap.get?_update_ne _ _ _ _ (Nat.ne_of_lt hlt), Heap.get?_push_ne _ _ _ (Nat.ne_of_lt hlt)]
    exact q
  show wpAny _ _ _ _ _ { s with heap := g1.push (seqObj "list" vs.toArray 0) }
  generalize hD : g1.objs.size = D at hsz ⊢
  have hoD : (g1.push (seqObj "list" vs.toArray 0)).get? D = some (seqObj "list" vs.toArray 0) := by rw [← hD]; exact Heap.get?_push_size _ rfl
  have keep2 : ∀ b o, s.heap.get? b = some o → (g1.push (seqObj "list" vs.toArray 0)).get? b = some o := fun b o q => Heap.get?_push_of_some _ (keep1 b o q)
  generalize g1.push (seqObj "list" vs.toArray 0) = g2 at hoD keep2 ⊢
  have hL : L < s.heap.objs.size := F.ns.lt
  have dL : D ≠ L := Nat.ne_of_gt (by rw [hsz]; exact Nat.lt_succ_of_lt hL)
  have d0 : h₀.get? D = none := Heap.get?_none_of_le (Nat.le_trans F.above (by rw [hsz]; exact Nat.le_succ_of_le (Nat.le_of_lt hL)))
  have dn : ∀ p ∈ news, p.1 < D := fun p hp => by rw [hsz]; exact Nat.lt_succ_of_lt (Heap.lt_size (N p hp).1)
  have F2 : Fr h₀ L g2 m := F.kept keep2
  have N2 : News h₀ L g2 news := N.grown keep2
  refine wpAny_bind (wpAny_holding (wpAny_call_entry slot_list_sort (s := { s with heap := g2 }) ⟨_, hoD, rfl⟩ entry_list_sort ?_ (args_list_sort _)))
  rw [list_sort_plain]
  refine wpAny_bind (listItems_at (s := { s with heap := g2 }) hoD rfl ?_)
  refine wpAny_bind (listUpdate_at (s := { s with heap := g2 }) hoD rfl ?_ (by rw [List.size_toArray]; exact hls) (Nat.zero_le _))
  have sb := Heap.SameBut.update g2 D (Obj.mapSeq fun _ => (#[] : Array Value))
  obtain ⟨e1, ho1⟩ : ∃ e1, (g2.update D (Obj.mapSeq fun _ => (#[] : Array Value))).get? D = some (seqObj "list" #[] e1) := ⟨_, get?_update_seq hoD fun _ => #[]⟩
  have F3 := kas_fr F2 sb dL d0
  have N3 := kas_news N2 sb fun p hp => Nat.ne_of_lt (dn p hp)
  show wpAny _ _ _ _ _ { s with heap := g2.update D (Obj.mapSeq fun _ => (#[] : Array Value)) }
  generalize g2.update D (Obj.mapSeq fun _ => (#[] : Array Value)) = g3 at ho1 F3 N3 ⊢
  refine wpAny_bind (seqEpoch_at (s := { s with heap := g3 }) ho1 rfl ?_)
  refine wpAny_bind (wpAny_newTuple ?_ (by show vs.length ≤ _; exact hls))
  refine wpAny_bind (wpAny_newList ?_ (Nat.zero_le _))
  refine wpAny_holding ?_
  show wpAny _ _ _ _ _ { s with heap := (g3.push (seqObj "tuple" vs.toArray 0)).push (seqObj "list" #[] 0) }
  have ho4 : ((g3.push (seqObj "tuple" vs.toArray 0)).push (seqObj "list" #[] 0)).get? D = some (seqObj "list" #[] e1) := Heap.get?_push_of_some _ (Heap.get?_push_of_some _ ho1)
  have F4 : Fr h₀ L ((g3.push (seqObj "tuple" vs.toArray 0)).push (seqObj "list" #[] 0)) m := (F3.push _).push _
  have N4 : News h₀ L ((g3.push (seqObj "tuple" vs.toArray 0)).push (seqObj "list" #[] 0)) news := N3.grown fun b x e => Heap.get?_push_of_some _ (Heap.get?_push_of_some _ e)
  generalize (g3.push (seqObj "tuple" vs.toArray 0)).push (seqObj "list" #[] 0) = g4 at ho4 F4 N4 ⊢
  have hsm : vs.toArray.size < 2 := by rw [List.size_toArray]; exact h2
  dsimp only
  rw [if_pos hsm, if_pos hsm]
  refine wpAny_bind (wpAny_pure ?_)
  rw [StateT.run_pure]
  refine wpAny_bind (wpAny_pure ?_)
  dsimp only
  refine wpAny_bind (seqEpoch_at (s := { s with heap := g4 }) ho4 rfl ?_)
  have hz : (vs.toArray.zip vs.toArray).map (·.2) = vs.toArray := by
    apply Array.toList_inj.mp
    simp only [Array.toList_map, Array.toList_zip]
    exact List.map_snd_zip (Nat.le_refl _)
  rw [show Array.map (fun (x : Value × Value) => x.snd) (arrOf (SortSt.mk' general' (vs.toArray.zip vs.toArray) #[] 7 none)) = vs.toArray from hz]
  refine wpAny_bind (listUpdate_at (s := { s with heap := g4 }) ho4 rfl ?_ (Nat.zero_le _) (by show vs.toArray.size ≤ _; rw [List.size_toArray]; lia))
  simp only [bne_self_eq_false, Bool.false_eq_true, if_false]
  have sb2 := Heap.SameBut.update g4 D (Obj.mapSeq fun _ => vs.toArray)
  obtain ⟨c2, hc2⟩ : ∃ c2, (g4.update D (Obj.mapSeq fun _ => vs.toArray)).get? D = some (seqObj "list" vs.toArray c2) := ⟨_, get?_update_seq ho4 fun _ => vs.toArray⟩
  refine wpAny_pure ⟨_, rfl, wpAny_pure ⟨_, rfl, h D c2 _ (kas_fr F4 sb2 dL d0) (fun p hp => ?_) dn⟩⟩
  rcases List.mem_cons.mp hp with rfl | hp
  · exact ⟨hc2, dL, d0⟩
  · exact kas_news N4 sb2 (fun p hp => Nat.ne_of_lt (dn p hp)) p hp
end
section
variable {c : Cx} {env : Env} {z hid own : List (Addr × Obj)} {σ : Sto} {s : Shared} {m : Pin} {P : V → Prop}
theorem AtX.newZ {o : Obj} {h' : Heap} {t : Nat} {b : Addr} (X : AtX c hid z env σ s m own) (hn : ∀ p ∈ own ++ (z ++ hid), p.1 ≠ b) (F' : Fr m.g c.L h' m.m) (N' : News m.g c.L h' ((b, o) :: (own ++ (z ++ hid)))) :
    At c hid ((b, o) :: z) env σ { s with heap := h', toks := t } := by
  have X' := X
  obtain ⟨F, N, S1, S2, k, V, U, C⟩ := X
  refine At.grow (t := t) X' F' (fun p hp => N' p ?_) (fun p h => .tail _ h) (fun _ h => h) ?_ ?_
  · simp only [List.mem_append, List.mem_cons, List.cons_append] at hp ⊢
    grind
  · intro p hp q hq
    rcases List.mem_cons.mp hq with rfl | hq
    · exact hn p (List.mem_append_left _ hp)
    · exact S1 p hp q hq
  · intro p hp q hq
    rcases List.mem_cons.mp hp with rfl | hp
    · exact Ne.symm (hn q (List.mem_append_right _ (List.mem_append_right _ hq)))
    · exact S2 p hp q hq
noncomputable abbrev nlV (w : List Nat) : V := .lst (ivs (ns w))
theorem CallOk.sortedNls {l : List (List Nat)} (h64 : l.length < 64) (hun : c.un + 8 < cLine) (h : P (.lst ((lsort l).map nlV))) : CallOk c (.builtin "sorted") [.lst (l.map nlV)] P := fun env σ hid z s vs H hv E => by
  unfold VRs at hv; obtain ⟨v, r, rfl, hv, hr⟩ := hv
  unfold VRs at hr; subst hr
  unfold VR at hv; obtain ⟨a, vs, n, rfl, hp, hr⟩ := hv
  have hlen : vs.length = l.length := by rw [hr.len, List.length_map]
  obtain ⟨m, own, X⟩ := id H
  have fin : ∀ (D c1 : Nat) (h' : Heap) (out : List Value), Fr m.g c.L h' m.m → News m.g c.L h' ((D, lobj out c1) :: (own ++ (z ++ hid))) → (∀ q ∈ own ++ (z ++ hid), q.1 < D) → VRs (PP c.base z) ((lsort l).map nlV) out →
      EP c hid z env s (fun V σ' => P V ∧ σ' = σ) (.ref D) { s with heap := h' } := fun D c1 h' out F' N' hlt ho => by
    have H' := X.newZ (t := s.toks) (fun p hp => Nat.ne_of_lt (hlt p hp)) F' N'
    refine ⟨_, .lst ((lsort l).map nlV), σ, fun p hp => .tail _ hp, H', ?_, ⟨rfl, rfl, rfl⟩, h, rfl⟩
    unfold VR
    exact ⟨D, out, c1, rfl, .inr (.head _), ho.mono (PP.mono fun p hp => .tail _ hp)⟩
  by_cases h2 : vs.length < 2
  · refine sorted_short X.x1 X.x2 (isL (H.get hp)) h2 fun D c1 h' F' N' hlt => fin D c1 h' vs F' N' hlt ?_
    have : lsort l = l := (lsort_unique (.refl _) (by
      match l, hlen with
      | [], _ => exact .nil
      | [x], _ => exact List.pairwise_singleton _ _
      | _ :: _ :: _, hlen => simp at hlen; lia)).symm
    rw [this]; exact hr
  · have item : ∀ i, i < vs.length → ∃ b us k, vs.getD i Value.none = .ref b ∧ PP c.base z b (lobj us k) ∧ IntsAre us (ns (l.getD i [])) := fun i hi => by
      have hi' : i < l.length := by lia
      obtain ⟨v, e, hv⟩ := hr.get (i := i) (x := nlV (l.getD i [])) (by simp [List.getD_eq_getElem?_getD, hi'])
      unfold nlV VR at hv
      obtain ⟨b, us, k, rfl, hp, hi⟩ := hv
      exact ⟨b, us, k, by rw [List.getD_eq_getElem?_getD, e]; rfl, hp, hi.toInts⟩
    have look : ∀ {h' : Heap} {news : List (Addr × Obj)}, Fr m.g c.L h' m.m → News m.g c.L h' news → (∀ q ∈ own ++ (z ++ hid), q ∈ news) → ∀ {b o}, PP c.base z b o → h'.get? b = some o := fun {h' news} F' N' hs {b o} hp => by
      rcases hp with hp | hp
      · exact F'.keep _ _ (X.x5.stays _ _ hp)
      · exact (N' (b, o) (hs _ (List.mem_append_right _ (List.mem_append_left _ hp)))).1
    refine kas_sorted (T := .type "list") (h₀ := m.g) (L := c.L) (m := m.m) (news := own ++ (z ++ hid)) X.x1 X.x2 (isL (H.get hp)) (by lia) (by lia) (fun h' F' N' v hv => ?_) (by rfl) fun D e1 h' F' N' hlt => ?_
    · obtain ⟨i, hi, e⟩ := List.getElem_of_mem hv
      obtain ⟨b, us, k, e2, hp2, _⟩ := item i hi
      have e3 : v = .ref b := by rw [← e2, List.getD_eq_getElem?_getD, List.getElem?_eq_getElem hi]; exact e.symm
      rw [e3]
      exact kitAt_ty _ _ ⟨_, look F' N' (fun q hq => hq) hp2, rfl⟩
    · refine tri_sort (O := lexOrd) (key := fun i => l.getD i []) (n := vs.length) (by lia) _ _ _ (fun i j C hi hj hC => ?_) fun p ⟨hpp, hpa⟩ => ?_
      · obtain ⟨b, us, k, e1, p1, i1⟩ := item i hi
        obtain ⟨b2, us2, k2, e2, p2, i2⟩ := item j hj
        unfold kas_ask
        rw [e1, e2]
        exact keyLt_lists (s := { s with heap := h' }) (by rw [units_in1, units_in1]; show c.un + 1 + 1 < _; lia) (look F' N' (fun q hq => .tail _ hq) p1) (look F' N' (fun q hq => .tail _ hq) p2) i1 i2 hC
      · refine KasFin.intro F' N' (.head fun p hp => Nat.ne_of_lt (hlt p hp)) fun h2 c2 F2 N2 => ?_
        have hpl : p.toList.Perm (List.range vs.length) := by simpa using Array.perm_iff_toList_perm.mp hpp.perm
        have hout : lsort l = p.toList.map fun i => l.getD i [] := by
          refine (lsort_unique ?_ ?_).symm
          · refine (hpl.map _).trans ?_
            rw [hlen]
            have : (List.range l.length).map (fun i => l.getD i []) = l := by
              apply List.ext_getElem
              · simp
              · intro i h1 h2; simp [List.getD_eq_getElem?_getD, h2]
            rw [this]
          · rw [List.pairwise_map, List.pairwise_iff_getElem]
            intro i j hi hj hij
            have hj' : j < p.size := by simpa using hj
            have hi' : i < p.size := by simpa using hi
            have := hpa i j (by lia) (by rw [← hpp.size]; exact hj')
            have e1 : p.getD i 0 = p.toList[i] := by simp [Array.getD, hi']
            have e2 : p.getD j 0 = p.toList[j] := by simp [Array.getD, hj']
            unfold At_ at this
            rw [e1, e2] at this
            exact this
        refine fin D c2 h2 (p.toList.map fun i => vs.getD i Value.none) F2 N2 hlt ?_
        rw [hout, List.map_map]
        have all : ∀ i ∈ p.toList, i < vs.length := fun i hi => by simpa using hpl.mem_iff.mp hi
        generalize p.toList = q at all
        clear hout hpl
        induction q with
        | nil => exact VRs.nil
        | cons i q ih =>
          refine VRs.cons ?_ (ih fun i hi => all i (.tail _ hi))
          obtain ⟨b, us, k, e1, p1, i1⟩ := item i (all i (.head _))
          show VR (PP c.base z) (nlV (l.getD i [])) (vs.getD i Value.none)
          rw [e1]
          unfold nlV VR
          exact ⟨b, us, k, rfl, p1, VRs.ofInts i1⟩
end
end
section
noncomputable def ch (i : Int) : Str := ⟨#[i.toNat]⟩
theorem hid_range (d : Int) : 0 ≤ hidI d ∧ hidI d ≤ 65279 := by
  have := fmod_lt d (k := 27) (by decide)
  unfold hidI
  split
  · have := allGet (p := fun i => decide (0 ≤ i) && decide (i ≤ 65279)) (xs := hidCodes) (by decide) (i := (d.fmod 27).toNat) (by show _ < 11; omega)
    simpa using this
  · omega
theorem hidden_fn (d : Int) : Fn (nat_lit 127) 2 [.int d] (.str (ch (hidI d))) := by
  refine Fn.intro' (n := 1) (name := .ofString "_law_hidden") (qual := .ofString "_law_hidden") (params := a127) (body := b127) (scope := s127) (pm := .str (.ofString "law_uc0003_01") 513) (cdv := .ref (nat_lit 126)) (ps := [.ofString "draw"]) (fun _ => rfl) cd_law_hidden (lens1 rfl fun v => rfl) rfl rfl (by decide) (by decide) rfl rfl rfl fun c C => ?_
  have hm := fmod_lt d (k := 27) (by decide)
  have hr := hid_range d
  unfold hidI at hr ⊢
  repeat walk_at "rr"
  refine ⟨Nat.le_of_ble_eq_true rfl, fun b => ?_⟩
  repeat walk_at "rr"
  refine ifD (fun h => ?_) (fun h => ?_)
  · rw [if_pos h] at hr ⊢
    repeat walk_at "rr"
    refine ⟨_, _, rfl, rfl, by decide, nth_ivs (xs := hidCodes) hm.1 (by show _ < (11 : Int); omega), ?_⟩
    repeat walk_at "rr"
    exact CallOk.chr hr.1 (by omega) rfl
  · rw [if_neg h] at hr ⊢
    repeat walk_at "rr"
    exact CallOk.chr hr.1 (by omega) rfl
theorem bes_range (d : Int) : 0 ≤ besI d ∧ besI d ≤ 65280 := by
  have := fmod_lt d (k := 16) (by decide)
  have := allGet (p := fun i => decide (0 ≤ i) && decide (i ≤ 65280)) (xs := besCodes) (by decide) (i := (d.fmod 16).toNat) (by show _ < 16; omega)
  simpa [besI] using this
theorem beside_fn (d : Int) : Fn (nat_lit 134) 2 [.int d] (.str (ch (besI d))) := by
  refine Fn.intro' (n := 1) (name := .ofString "_law_beside") (qual := .ofString "_law_beside") (params := a134) (body := b134) (scope := s134) (pm := .str (.ofString "law_uc0003_01") 513) (cdv := .ref (nat_lit 133)) (ps := [.ofString "draw"]) (fun _ => rfl) cd_law_beside (lens1 rfl fun v => rfl) rfl rfl (by decide) (by decide) rfl rfl rfl fun c C => ?_
  have hm := fmod_lt d (k := 16) (by decide)
  have hr := bes_range d
  repeat walk_at "rr"
  refine ⟨Nat.le_of_ble_eq_true rfl, fun b => ?_⟩
  repeat walk_at "rr"
  refine ⟨_, _, rfl, rfl, by decide, nth_ivs (xs := besCodes) hm.1 (by show _ < (16 : Int); omega), ?_⟩
  repeat walk_at "rr"
  exact CallOk.chr hr.1 (Int.le_trans hr.2 (by decide)) rfl
end
section
open PySem PySem.W PySem.Spec PySem.Calls PyProof.Rows PySem.F
section
variable {prog : Program} {w : World} {A : Around} {E : Value → Shared → Prop} {s : Shared}
/-- next of a list's iterator: an item -/
theorem next_item {it l : Addr} {i : Nat} {items : Array Value} {x : Value} {Q : Value → Shared → Prop} (hit : s.heap.IsListIter it l i) (hl : s.heap.IsList l items) (hx : items[i]? = some x)
    (hQ : ∀ h', h'.IsListIter it l (i + 1) → Heap.SameBut it s.heap h' → Q x { s with heap := h' }) : wpAny (model prog w) A (call (.builtin "next") [.ref it]) Q E s := by
  obtain ⟨o, ho, hc, hd⟩ := id hit
  obtain ⟨ol, hol, _, nl, hdl⟩ := hl
  refine call_function_entry (by decide +kernel) (by decide +kernel) kdk_entry_next (kdk_args_next _) ?_
  unfold Builtin.«next»
  refine wpAny_bind (m := someArgs "next" 1 2 _) (wpAny_of_eq (a := [Value.ref it]) (by first | rfl | kernel_rfl!) ?_)
  dsimp only
  refine wpAny_bind (wpAny_specialOf (name := Str.ofString "__next__") hit.typeIs slot_listiter_next.lookup ?_)
  refine wpAny_ite_split (fun hab => absurd hab (by decide)) (fun _ => ?_)
  refine wpAny_bind (wpAny_callSpecial?_slot (name := Str.ofString "__next__") hit.typeIs slot_listiter_next
    (wpAny_call_entry slot_listiter_next hit.typeIs entry_listiter_next ?_ (args_listiter_next _)))
  show wpAny _ _ (field (.ref it) 0 >>= _) _ _ s
  refine wpAny_bind (wpAny_field ho hd (x := .ref l) rfl ?_)
  show wpAny _ _ (if (Value.ref l == Value.none) = true then _ else _) _ _ s
  rw [if_neg (show ¬ ((Value.ref l == Value.none) = true) from Bool.false_ne_true)]
  show wpAny _ _ (field (.ref it) 1 >>= _) _ _ s
  refine wpAny_bind (wpAny_field ho hd (x := .int i 0) rfl ?_)
  show wpAny _ _ (seqItems? (.ref l) >>= _) _ _ s
  refine wpAny_bind (wpAny_seqItems hol hdl ?_)
  simp only [Int.toNat_natCast, hx]
  refine wpAny_bind (wpAny_setField ho hd (by simp) (wpAny_pure ⟨x, rfl, wpAny_pure ⟨_, rfl, hQ _ ?_ (Heap.SameBut.update ..)⟩⟩))
  exact ⟨_, Heap.get?_update_self _ ho (Obj.isFreed_of_fields (Obj.data_mapFields hd _)), (Obj.cls_mapFields ..).trans hc, by
    rw [Obj.data_mapFields hd]; simp [rawInt]⟩
/-- next of a list's iterator at its end -/
theorem next_end {it l : Addr} {i : Nat} {items : Array Value} {Q : Value → Shared → Prop} (hh : A.handled = none) (hit : s.heap.IsListIter it l i) (hl : s.heap.IsList l items) (hx : items[i]? = none)
    (hE : ∀ h1 h' e, Heap.SameBut it s.heap h1 → (∃ o, h1.get? it = some o) → Heap.NewExc h1 h' e "StopIteration" → E (.ref e) { s with heap := h' }) : wpAny (model prog w) A (call (.builtin "next") [.ref it]) Q E s := by
  obtain ⟨o, ho, hc, hd⟩ := id hit
  obtain ⟨ol, hol, _, nl, hdl⟩ := hl
  refine call_function_entry (by decide +kernel) (by decide +kernel) kdk_entry_next (kdk_args_next _) ?_
  unfold Builtin.«next»
  refine wpAny_bind (m := someArgs "next" 1 2 _) (wpAny_of_eq (a := [Value.ref it]) (by first | rfl | kernel_rfl!) ?_)
  dsimp only
  refine wpAny_bind (wpAny_specialOf (name := Str.ofString "__next__") hit.typeIs slot_listiter_next.lookup ?_)
  refine wpAny_ite_split (fun hab => absurd hab (by decide)) (fun _ => ?_)
  refine wpAny_bind (wpAny_callSpecial?_slot (name := Str.ofString "__next__") hit.typeIs slot_listiter_next
    (wpAny_call_entry slot_listiter_next hit.typeIs entry_listiter_next ?_ (args_listiter_next _)))
  show wpAny _ _ (field (.ref it) 0 >>= _) _ _ s
  refine wpAny_bind (wpAny_field ho hd (x := .ref l) rfl ?_)
  show wpAny _ _ (if (Value.ref l == Value.none) = true then _ else _) _ _ s
  rw [if_neg (show ¬ ((Value.ref l == Value.none) = true) from Bool.false_ne_true)]
  show wpAny _ _ (field (.ref it) 1 >>= _) _ _ s
  refine wpAny_bind (wpAny_field ho hd (x := .int i 0) rfl ?_)
  show wpAny _ _ (seqItems? (.ref l) >>= _) _ _ s
  refine wpAny_bind (wpAny_seqItems hol hdl ?_)
  simp only [Int.toNat_natCast, hx]
  refine wpAny_bind (wpAny_rule (wpAny_bind (wpAny_setField ho hd (by simp) ?_)))
  show wpAny _ _ (newExc (.type "StopIteration") [] >>= _) _ _ _
  refine wpAny_bind ?_
  simp only [newExc, newTuple]
  refine wpAny_bind (wpAny_newObj_type ?_ (by size_fits))
  refine wpAny_bind (m := firstArgMember _ _) (wpAny_of_eq (a := Value.none) (by first | rfl | (simp only [firstArgMember]; rfl)) ?_)
  refine wpAny_newObj_type ?_ (by size_fits)
  simp only [raiseNew]
  refine wpAny_bind (wpAny_handled ?_)
  first | rw [show A.in1.handled = none from hh] | rw [hh]
  refine wpAny_bind (wpAny_pure (wpAny_throw ?_))
  refine hE (s.heap.update it (Obj.mapFields (·.setIfInBounds 0 .none))) _ _ (Heap.SameBut.update ..) ⟨_, Heap.get?_update_self _ ho (Obj.isFreed_of_fields (Obj.data_mapFields hd _))⟩ ⟨fun b o e => Heap.get?_push_of_some _ (Heap.get?_push_of_some _ e), ?_, ?_⟩
  · exact Heap.get?_none_of_le (by rw [Heap.size_push]; lia)
  · exact ⟨_, _, Heap.get?_push_size _ rfl, rfl, rfl⟩
end
end
section
open PySem.F
/-! signs of a number -/
theorem and63 (b : Nat) : Builtin.bitAnd (b : Int) 63 = ((b % 64 : Nat) : Int) := by
  have h : ((b &&& 63 : Nat) : Int) = ((b % 64 : Nat) : Int) := by rw [show 63 = 2 ^ 6 - 1 from rfl, Nat.and_two_pow_sub_one_eq_mod]
  rw [← h]
  unfold Builtin.bitAnd
  rw [decide_eq_true (by lia : (0 : Int) ≤ (b : Int))]
  simp
theorem and64 (b : Nat) : (Builtin.bitAnd (b : Int) 64 != 0) = decide (b / 64 % 2 = 1) := by
  have h : (b &&& 64 : Nat) = if b / 64 % 2 = 1 then 64 else 0 := by
    refine Nat.eq_of_testBit_eq fun i => ?_
    rw [Nat.testBit_and, show 64 = 2 ^ 6 from rfl, Nat.testBit_two_pow]
    by_cases hi : 6 = i
    · subst hi
      have hb : b.testBit 6 = decide (b / 64 % 2 = 1) := by rw [Nat.testBit_eq_decide_div_mod_eq]
      rw [hb]
      by_cases q : b / 64 % 2 = 1
      · rw [if_pos q, decide_eq_true q]; rfl
      · rw [if_neg q, decide_eq_false q]; rfl
    · rw [decide_eq_false hi, Bool.and_false]
      split
      · rw [Nat.testBit_two_pow, decide_eq_false hi]
      · simp
  have e : Builtin.bitAnd (b : Int) 64 = ((b &&& 64 : Nat) : Int) := by
    unfold Builtin.bitAnd
    rw [decide_eq_true (by lia : (0 : Int) ≤ (b : Int))]
    simp
  rw [e, h]
  by_cases q : b / 64 % 2 = 1 <;> simp [q]
theorem or64 (v r : Nat) (hr : r < 64) : Builtin.bitOr ((v : Int) * 64) (r : Int) = ((v * 64 + r : Nat) : Int) := by
  have h : v * 64 + r = (v * 64) ||| r := by
    have := Nat.two_pow_add_eq_or_of_lt (b := r) (i := 6) (by lia) v
    rw [show (2 : Nat) ^ 6 = 64 from rfl, Nat.mul_comm 64 v] at this; exact this
  rw [h]
  have e : ((v : Int) * 64) = ((v * 64 : Nat) : Int) := by lia
  rw [e]
  generalize v * 64 = x
  unfold Builtin.bitOr Builtin.bitAnd Builtin.bitNot
  have e1 : decide ((0 : Int) ≤ -(x : Int) - 1) = false := by simp; lia
  have e2 : decide ((0 : Int) ≤ -(r : Int) - 1) = false := by simp; lia
  rw [e1, e2]
  simp only []
  have a1 : (-(-(x : Int) - 1) - 1).toNat = x := by lia
  have a2 : (-(-(r : Int) - 1) - 1).toNat = r := by lia
  rw [a1, a2]
  lia
end
section
open PySem.F
noncomputable def ItAt (l : Addr) (i : Nat) (o : Obj) : Prop := o.cls = .type "list_iterator" ∧ o.data = .fields #[.ref l, .int i 0]
/-- what is asked of an end by StopIteration -/
noncomputable def Throws (c : Cx) (hid z : List (Addr × Obj)) (s : Shared) (E : Value → Shared → Prop) : Prop :=
  ∀ e s' z' σ' h1, Sub z z' → At c hid z' c.env σ' { s' with heap := h1 } → Heap.NewExc h1 s'.heap e "StopIteration" → Same s s' → E (.ref e) s'
theorem Throws.mono {c : Cx} {hid z z₁ : List (Addr × Obj)} {s s₁ : Shared} {E : Value → Shared → Prop} (h : Throws c hid z s E) (hz : Sub z z₁) (sm : Same s s₁) : Throws c hid z₁ s₁ E :=
  fun e s' z' σ' h1 a b d f => h e s' z' σ' h1 (fun p hp => a p (hz p hp)) b d (sm.trans f)
inductive PSP (c : Cx) (I l : Addr) (hid z : List (Addr × Obj)) (s : Shared) (Q : Nat → Out → Sto → Prop) (fl : Flow) (s' : Shared) : Prop
  | mk (z' : List (Addr × Obj)) (oo : Out) (σ' : Sto) (i' : Nat) (o' : Obj) (h1 : Sub z z') (h2 : ItAt l i' o') (h3 : At c ((I, o') :: hid) z' c.env σ' s') (h4 : OutR (PP c.base z') oo fl) (h5 : Same s s') (h6 : Q i' oo σ')
theorem PSP.from {c : Cx} {I l : Addr} {hid z z₁ : List (Addr × Obj)} {s s₁ : Shared} {Q : Nat → Out → Sto → Prop} {fl : Flow} {s' : Shared} (h : PSP c I l hid z₁ s₁ Q fl s') (hz : Sub z z₁) (sm : Same s s₁) : PSP c I l hid z s Q fl s' := by
  obtain ⟨z', oo, σ', i', o', a, b, d, e, f, g⟩ := h
  exact ⟨z', oo, σ', i', o', fun p hp => a p (hz p hp), b, d, e, sm.trans f, g⟩
noncomputable def PS (c : Cx) (X : Prop) (I l : Addr) (vs : List Value) (nn : Nat) (i : Nat) (σ : Sto) (body : List Stmt) (Q : Nat → Out → Sto → Prop) : Prop :=
  ∀ hid z s o, (∀ q ∈ hid, I ≠ q.1) → ItAt l i o → PP c.base z l (lobj vs nn) → At c ((I, o) :: hid) z c.env σ s → ∀ E, PassesOwn c.M c.A c.env E → (X → Throws c hid z s E) → wpAny c.M c.A (execs body c.env) (PSP c I l hid z s Q) E s
section
variable {c : Cx} {X : Prop} {I l : Addr} {vs : List Value} {nn i n : Nat} {σ : Sto} {body rest : List Stmt} {Q : Nat → Out → Sto → Prop} {st : Stmt} {D : List Nat} {t : Expr} {pos pb p p' spos : Pos} {b : Str}
theorem PS.weaken {τ : Sto} (h : PS c X I l vs nn i τ body Q) (hl : Le τ σ) : PS c X I l vs nn i σ body Q := fun hid z s o hI hi hp H E hE hT => h hid z s o hI hi hp (H.weaken hl) E hE hT
theorem PS.nil (h : Q i .nxt σ) : PS c X I l vs nn i σ [] Q := fun hid z s o hI hi hp H E hE hT => wpAny_execs_nil ⟨z, .nxt, σ, i, o, fun _ h => h, hi, H, rfl, ⟨rfl, rfl, rfl⟩, h⟩
noncomputable def PQ (c : Cx) (X : Prop) (I l : Addr) (vs : List Value) (nn i : Nat) (rest : List Stmt) (Q : Nat → Out → Sto → Prop) : Out → Sto → Prop
  | .nxt, σ => PS c X I l vs nn i σ rest Q
  | o, σ => Q i o σ
theorem PS.cons (h : S1 c st σ (PQ c X I l vs nn i rest Q)) : PS c X I l vs nn i σ (st :: rest) Q := fun hid z s o hI hi hp H E hE hT => by
  refine wpAny_execs_cons (wpAny_mono (h _ z s H E) (fun fl s₁ hPat => ?_) fun _ _ e => e)
  obtain ⟨z₁, oo, σ₁, hz, H₁, ho, sm, k⟩ := hPat
  cases oo with
  | nxt => cases ho; exact wpAny_mono (k hid z₁ s₁ o hI hi (PP.mono hz _ _ hp) H₁ E hE (fun x => (hT x).mono hz sm)) (fun _ _ x => x.from hz sm) fun _ _ e => e
  | brk => cases ho; exact ⟨z₁, .brk, σ₁, i, o, hz, hi, H₁, rfl, sm, k⟩
  | ret V => obtain ⟨v, rfl, hv⟩ := ho; exact ⟨z₁, .ret V, σ₁, i, o, hz, hi, H₁, ⟨v, rfl, hv⟩, sm, k⟩
theorem PQ.nx (h : PS c X I l vs nn i σ rest Q) : PQ c X I l vs nn i rest Q .nxt σ := h
theorem PQ.rt {v : V} (h : Q i (.ret v) σ) : PQ c X I l vs nn i rest Q (.ret v) σ := h
theorem PS.next (ok : c.Ok n) (hx : sget σ (.ofString "iterator") = some (.raw (.ref I))) (hb : Storable c b) (hkn : c.env.kindOf (.ofString "next") = some .globalImplicit) (hvs : IntsAre vs (ns D)) (hX : D[i]? = none → X)
    (h : ∀ d, D[i]? = some d → PS c X I l vs nn (i + 1) (sput σ b (.frz (.int d))) rest Q)
    (hs : swapsWith (.Call (.Name (.ofString "next") p) [.Name (.ofString "iterator") p'] [] pos) (some (.Name b pb)) spos.line c.env = pure false) :
    PS c X I l vs nn i σ (.Assign [.Name b pb] (.Call (.Name (.ofString "next") p) [.Name (.ofString "iterator") p'] [] pos) spos :: rest) Q := fun hid z s o hI hi hp H E hE hT => by
  refine wpAny_execs_cons (wpAny_Assign_Name ?_ hs)
  show wpAny _ _ (do callWith pos (← eval (.Name (.ofString "next") p) c.env) [] (backTo pos (starEach [.Name (.ofString "iterator") p'] c.env)) (backToKw pos (keywordEach [] c.env))) _ _ s
  obtain ⟨m, own, XX⟩ := id H
  obtain ⟨F, N, S1, S2, k, V, U, C⟩ := id XX
  have TR := topRead_of ok.top
  refine wpAny_bind (Name_function_global k.kind hkn (loadGlobal_builtin (mg := c.mg) (mb := c.mb) (k.globals ▸ TR.g.keeps H.base) (mg_none_of ok.kin TR.g (ns_next _)) (k.builtins ▸ TR.b.keeps H.base) ((TR.builtins _ (by decide)).trans (by rfl)) ?_) (by decide))
  refine callWith_builtin1 ?_ rfl rfl
  refine spliced_more ?_ rfl
  refine Src.load (V _ _ hx) k.kind F N ?_ (by decide) (by decide)
  refine spliced_none ?_
  have hIN := N (I, o) (by simp)
  have hit : s.heap.IsListIter I l i := ⟨o, hIN.1, hi.1, hi.2⟩
  have hl := isL (H.get hp)
  have hlen := hvs.length
  by_cases hd : i < D.length
  · have hv : i < vs.length := by rw [List.length_map] at hlen; lia
    obtain ⟨t, ht⟩ : ∃ t, vs[i]? = some (.int ((D.getD i 0 : Nat) : Int) t) := by
      have R : VRs (fun _ _ => True) (ivs (ns D)) vs := VRs.ofInts hvs
      obtain ⟨u, hu, hw⟩ := R.get (i := i) (x := .int ((D.getD i 0 : Nat) : Int)) (by simp [List.getD_eq_getElem?_getD, hd])
      unfold VR at hw
      obtain ⟨t, rfl⟩ := hw
      exact ⟨t, hu⟩
    refine next_item hit hl (by simpa using ht) fun h' hit' hsame => ?_
    obtain ⟨o', ho', hc', hd'⟩ := hit'
    have H' := H.swapI (t := s.toks) hI (fun b ob hb e => hsame.extBut b ob hb e) ho'
    have hV : VR (PP c.base z) (.int ((D.getD i 0 : Nat) : Int)) (.int ((D.getD i 0 : Nat) : Int) t) := by unfold VR; exact ⟨t, rfl⟩
    refine wpAny_mono (H'.store hV hb) (fun _ s₂ hPat => ?_) fun _ _ e => e
    obtain ⟨H₂, sm₂⟩ := hPat
    have sm : Same s s₂ := Same.trans (b := { s with heap := h' }) ⟨rfl, rfl, rfl⟩ sm₂
    exact wpAny_mono (h (D.getD i 0) (by simp [List.getD_eq_getElem?_getD, hd]) hid z s₂ o' hI ⟨hc', hd'⟩ hp H₂ E hE (fun x => (hT x).mono (fun _ h => h) sm)) (fun _ _ x => x.from (fun _ h => h) sm) fun _ _ e => e
  · have hv : vs[i]? = none := List.getElem?_eq_none (by rw [List.length_map] at hlen; lia)
    refine next_end rfl hit hl (by simpa using hv) fun h1 h' e hsame _ hx => ?_
    exact hT (hX (List.getElem?_eq_none (by lia))) e { s with heap := h' } z σ h1 (fun _ h => h) (H.dropI (t := s.toks) hI fun b ob hb e => hsame.extBut b ob hb e) hx ⟨rfl, rfl, rfl⟩
theorem PS.while_ (J : Nat → Nat → Sto → Prop) {k : Nat} (h0 : J k i σ)
    (turn : ∀ k i τ, J k i τ → TV c c.env t τ fun b σ₁ => if b then PS c X I l vs nn i σ₁ body (fun i' o σ' => match o with | .nxt => ∃ k' τ', k' < k ∧ J k' i' τ' ∧ Le τ' σ' | .brk => False | .ret v => Q i' (.ret v) σ') else PS c X I l vs nn i σ₁ rest Q) :
    PS c X I l vs nn i σ (.While t body [] pos :: rest) Q := fun hid z s o hI hi hp H E hE hT => by
  refine wpAny_execs_cons ?_
  rw [exec_While]
  refine wpAny_bind (wpAny_standAt (wpAny_runOwn ?_))
  refine codeAny_whileLoop (fun k s' => ∃ z' σ' i' o', Sub z z' ∧ ItAt l i' o' ∧ At c ((I, o') :: hid) z' c.env σ' s' ∧ Same s s' ∧ J k i' σ') ?_ k ⟨z, σ, i, o, fun _ h => h, hi, H, ⟨rfl, rfl, rfl⟩, h0⟩
  rintro k s₁ ⟨z₁, σ₁, i₁, o₁, hz₁, hi₁, H₁, sm₁, hJ⟩
  refine wpAny_mono (turn k i₁ σ₁ hJ ((I, o₁) :: hid) z₁ s₁ H₁ _) (fun b s₂ hPat => ?_) fun _ _ e => e
  obtain ⟨z₂, σ₂, hz₂, H₂, sm₂, h₂⟩ := hPat
  have hz : Sub z z₂ := fun p hp => hz₂ p (hz₁ p hp)
  have sm := sm₁.trans sm₂
  cases b with
  | false => exact wpAny_execs_nil (wpAny_mono ((by simpa using h₂ : PS c X I l vs nn i₁ σ₂ rest Q) hid z₂ s₂ o₁ hI hi₁ (PP.mono hz _ _ hp) H₂ E hE (fun x => (hT x).mono hz sm)) (fun _ _ x => x.from hz sm) fun _ _ e => e)
  | true =>
    refine wpAny_passesOwn hE ?_
    have h₂' := (by simpa using h₂ : PS c X I l vs nn i₁ σ₂ body (fun i' o σ' => match o with | .nxt => ∃ k' τ', k' < k ∧ J k' i' τ' ∧ Le τ' σ' | .brk => False | .ret v => Q i' (.ret v) σ'))
    refine wpAny_mono (h₂' hid z₂ s₂ o₁ hI hi₁ (PP.mono hz _ _ hp) H₂ E hE (fun x => (hT x).mono hz sm)) (fun f s₃ hPat => ?_) fun _ _ e => e
    obtain ⟨z₃, oo, σ₃, i₃, o₃, hz₃, hi₃, H₃, ho, sm₃, h₃⟩ := hPat
    have hzz : Sub z z₃ := fun p hp => hz₃ p (hz p hp)
    have smm := sm.trans sm₃
    cases oo with
    | nxt => cases ho; obtain ⟨k', τ', hk', hJ', hl⟩ := h₃; exact ⟨k', hk', z₃, τ', i₃, o₃, hzz, hi₃, H₃.weaken hl, smm, hJ'⟩
    | brk => exact absurd h₃ id
    | ret V => obtain ⟨v, rfl, hv⟩ := ho; exact ⟨z₃, .ret V, σ₃, i₃, o₃, hzz, hi₃, H₃, ⟨v, rfl, hv⟩, smm, h₃⟩
end
section
variable {c : Cx} {i j : Int} {P : V → Prop}
theorem InOk.ofInt {op : Operator} {f : Int} (h : P (.int f))
    (k : ∀ (s : Shared) (t u : Tok) (Q : Value → Shared → Prop) (E : Value → Shared → Prop), Q (.int f s.toks) { s with toks := s.toks + 1 } → wpAny c.M c.A (inplaceOp op (.int i t) (.int j u)) Q E s) : InOk c op (.int i) (.int j) P := fun env σ hid z s va vb H ha hb E => by
  unfold VR at ha hb; obtain ⟨t, rfl⟩ := ha; obtain ⟨u, rfl⟩ := hb
  exact k s t u _ _ (EP.int H ⟨h, rfl⟩)
theorem InOk.lsh (hn : 0 ≤ j) (hsz : (Builtin.Int.intBits i : Int) + j ≤ 2 ^ 27) (h : P (.int (i * 2 ^ j.toNat))) : InOk c .LShift (.int i) (.int j) P := .ofInt h fun _ _ _ _ _ => ilshift_int hn hsz
theorem InOk.or_ (h : P (.int (Builtin.bitOr i j))) : InOk c .BitOr (.int i) (.int j) P := .ofInt h fun _ _ _ _ _ => ior_int
end
/-- a number off the tape -/
noncomputable def varT : Nat → List Nat → Option (Nat × List Nat)
  | _, [] => none
  | v, b :: r => if b / 64 % 2 = 1 then varT (v * 64 + b % 64) r else some (v * 64 + b % 64, r)
theorem numbersT_var : ∀ (l : List Nat) (v : Nat), numbersT v l = match varT v l with | none => [] | some (x, r) => x :: numbersT 0 r
  | [], v => rfl
  | b :: r, v => by
    have e1 : numbersT v (b :: r) = if b / 64 % 2 = 1 then numbersT (v * 64 + b % 64) r else (v * 64 + b % 64) :: numbersT 0 r := rfl
    have e2 : varT v (b :: r) = if b / 64 % 2 = 1 then varT (v * 64 + b % 64) r else some (v * 64 + b % 64, r) := rfl
    rw [e1, e2]
    by_cases h : b / 64 % 2 = 1
    · rw [if_pos h, if_pos h]; exact numbersT_var r _
    · rw [if_neg h, if_neg h]
/-- the walk over the tape -/
theorem parse_ps {c : Cx} (C : c.Is s97 0) {I l : Addr} {vs : List Value} {nn i : Nat} {D : List Nat} (hvs : IntsAre vs (ns D)) (hD : D.length ≤ 2000) :
    PS c (varT 0 (D.drop i) = none) I l vs nn i [(.ofString "iterator", .raw (.ref I))] b97 fun i' o _ => ∃ x, o = .ret (.int ((x : Nat) : Int)) ∧ varT 0 (D.drop i) = some (x, D.drop i') ∧ i < i' ∧ i' ≤ D.length := by
  refine PS.next C.ok rfl (C.loc rfl) (C.kind rfl) hvs (fun hn => ?_) (fun d hd => ?_) rfl
  · rw [List.drop_of_length_le (List.getElem?_eq_none_iff.mp hn)]; rfl
  have hi := (List.getElem?_eq_some_iff.mp hd).1
  have hdrop : D.drop i = d :: D.drop (i + 1) := by
    rw [List.drop_eq_getElem_cons hi]
    congr 1
    rw [List.getElem?_eq_getElem hi] at hd
    exact Option.some.inj hd
  have two : ∀ k, k ≤ 12000 → (2 : Nat) ^ k ≤ 2 ^ 12000 := fun k hk => Nat.pow_le_pow_right (by decide) hk
  refine PS.cons ?_
  refine S1.assign (C.loc rfl) ?_ rfl
  repeat walk_at "rr"
  refine BinOk.and_ ?_
  rw [and63]
  refine PQ.nx ?_
  refine PS.while_ (k := D.length - (i + 1)) (fun k i' τ => ∃ d v : Nat, τ = [(.ofString "iterator", .raw (.ref I)), (.ofString "b", .frz (.int d)), (.ofString "val", .frz (.int v))] ∧ i < i' ∧ i' ≤ D.length ∧ k = D.length - i' ∧ v < 2 ^ (6 * i') ∧
    varT 0 (D.drop i) = if d / 64 % 2 = 1 then varT v (D.drop i') else some (v, D.drop i')) ?_ ?_
  · refine ⟨d, d % 64, rfl, by lia, by lia, rfl, ?_, ?_⟩
    · calc d % 64 < 2 ^ 6 := Nat.mod_lt _ (by decide)
        _ ≤ 2 ^ (6 * (i + 1)) := Nat.pow_le_pow_right (by decide) (by lia)
    · rw [hdrop]
      show (if d / 64 % 2 = 1 then varT (0 * 64 + d % 64) (D.drop (i + 1)) else some (0 * 64 + d % 64, D.drop (i + 1))) = _
      rw [Nat.zero_mul, Nat.zero_add]
  · rintro k i' τ ⟨d, v, rfl, h1, h2, hk, hv, hvar⟩
    refine TV.int ?_ rfl
    repeat walk_at "rr"
    refine BinOk.and_ ?_
    refine ⟨_, rfl, ?_⟩
    rw [and64]
    refine ifD (fun hb => ?_) (fun hb => ?_)
    · rw [if_pos hb] at hvar
      refine PS.cons ?_
      repeat walk_at "rr"
      refine InOk.lsh (by decide) ?_ ?_
      · have hb : Builtin.Int.intBits (v : Int) ≤ 6 * i' := intBits_le (by rw [Int.natAbs_natCast]; exact hv)
        have : (2 : Int) ^ 27 = 134217728 := by decide
        lia
      refine PQ.nx ?_
      refine PS.next C.ok rfl (C.loc rfl) (C.kind rfl) hvs (fun hn => ?_) (fun d' hd' => ?_) rfl
      · rw [hvar, List.drop_of_length_le (List.getElem?_eq_none_iff.mp hn)]; rfl
      have hi' := (List.getElem?_eq_some_iff.mp hd').1
      have hdrop' : D.drop i' = d' :: D.drop (i' + 1) := by
        rw [List.drop_eq_getElem_cons hi']
        congr 1
        rw [List.getElem?_eq_getElem hi'] at hd'
        exact Option.some.inj hd'
      refine PS.cons ?_
      repeat walk_at "rr"
      refine BinOk.and_ ?_
      rw [and63]
      refine InOk.or_ ?_
      rw [show ((v : Int) * 2 ^ (6 : Int).toNat) = (v : Int) * 64 from rfl, or64 _ _ (Nat.mod_lt _ (by decide))]
      refine PQ.nx ?_
      refine PS.nil ?_
      refine ⟨D.length - (i' + 1), _, by lia, ⟨d', v * 64 + d' % 64, rfl, by lia, by lia, rfl, ?_, ?_⟩, Le.cons rfl (Le.cons rfl (Le.cons rfl (Le.nil _)))⟩
      · have : d' % 64 < 64 := Nat.mod_lt _ (by decide)
        rw [Nat.mul_add, Nat.mul_one, Nat.pow_add]
        show v * 64 + d' % 64 < 2 ^ (6 * i') * 64
        lia
      · rw [hvar, hdrop']; rfl
    · rw [if_neg hb] at hvar
      refine PS.cons ?_
      repeat walk_at "rr"
      exact PQ.rt ⟨v, rfl, hvar, h1, h2⟩
end
section
open PySem.F
/-- the state, when a call has ended by StopIteration -/
noncomputable def Fell (c : Cx) (hid₀ hid z : List (Addr × Obj)) (σ : Sto) (s : Shared) (e : Addr) (s' : Shared) : Prop :=
  ∃ (m : Pin) (own own' z' news : List (Addr × Obj)) (G : Heap), AtX c hid₀ z c.env σ s m own ∧ Fr m.g c.L G m.m ∧ Sub z z' ∧ (∀ q ∈ own' ++ (z' ++ hid), q ∈ news) ∧ SubN own own' ∧ Sep own' (z' ++ hid) ∧ Sep z' hid ∧ Tb c.keep z' own' ∧
    RaisedSN c.base G (c.env :: c.outer) e (.type "StopIteration") news s'.heap ∧ G.UpToSlots s'.heap ∧ Same s s'
theorem VarOk.mine {c : Cx} {hid hid' z z' own own' : List (Addr × Obj)} {σ : Sto} {s : Shared} {m : Pin} {x : Str} {l : LV} (X : AtX c hid z c.env σ s m own) (hx : sget σ x = some l) (ho : SubN own own') (hz : Sub z z') : VarOk c c.env m own' z' hid' x l := by
  have sub : SubN (own ++ c.keep) (own' ++ (z' ++ hid')) := fun p hp hn => (List.mem_append.mp hp).elim (fun h => List.mem_append_left _ (ho p h hn)) fun h => List.mem_append_right _ (List.mem_append_left _ (hz _ (X.x8.2.kept _ h)))
  have X0 := X
  obtain ⟨F, N, S1, S2, k, V, U, C⟩ := X
  have := V x l hx
  cases l with
  | frz W => obtain ⟨u, a, b⟩ := this; exact ⟨u, (a.mine X0).monoN sub, VR.mono (PP.mono hz) b⟩
  | own q us => obtain ⟨a, us', n', b', d⟩ := this; exact ⟨(a.mine X0).monoN sub, us', n', ho _ b' .lobj, VRs.mono (PP.mono hz) d⟩
  | brw q us => exact absurd hx ((C.1 rfl).2.2 x q us)
  | raw w => exact (Src.mine X0 this).monoN sub
theorem parse_call {c : Cx} (ok : c.Ok 1) {I l : Addr} {o : Obj} {hid z : List (Addr × Obj)} {σ : Sto} {s : Shared} {vs : List Value} {nn i : Nat} {D : List Nat} {Q E : Value → Shared → Prop} (hpin : c.pin = none) (hvs : IntsAre vs (ns D)) (hD : D.length ≤ 2000)
    (hI : ∀ q ∈ hid, I ≠ q.1) (hi : ItAt l i o) (hp : PP c.base z l (lobj vs nn)) (H : At c ((I, o) :: hid) z c.env σ s)
    (hQ : ∀ z' i' o' s' x t, Sub z z' → ItAt l i' o' → At c ((I, o') :: hid) z' c.env σ s' → Same s s' → varT 0 (D.drop i) = some (x, D.drop i') → i < i' → i' ≤ D.length → Q (.int ((x : Nat) : Int) t) s')
    (hE : varT 0 (D.drop i) = none → ∀ e s', Fell c ((I, o) :: hid) hid z σ s e s' → E (.ref e) s') : wpAny c.M c.A (call (.ref (nat_lit 97)) [.ref I]) Q E s := by
  obtain ⟨m, own, X⟩ := H
  obtain ⟨F, N, S1, S2, k, V, U, C⟩ := id X
  have G := k.gok
  have nt : ∀ {p}, p ∈ own → NT p → p ∈ restOf own := fun hp hn => mem_rest hp (C.2.nt N hp hn)
  have ofR : ∀ {p}, p ∈ restOf own → p ∈ own := fun h => (List.mem_filter.mp h).1
  have ofT : ∀ {p}, p ∈ tabsOf own → p ∈ own := fun h => (List.mem_filter.mp h).1
  have XK : (K c.w.params).In s.heap := ok.kin.keeps fun b o e => F.keep b o (G.below.stays b o e)
  have Tp := ok.top.keeps fun b o e => F.keep b o (G.below.stays b o e)
  have hroom : c.A.depth < recursionLimit := by have := ok.room; show c.dp < _; lia
  let nw := tabsOf own ++ (z ++ ((I, o) :: (restOf own ++ hid)))
  have Nw : News m.g c.L s.heap nw := fun q hq => N q (by
    have hq' : q ∈ tabsOf own ++ (z ++ ((I, o) :: (restOf own ++ hid))) := hq
    simp only [List.mem_append, List.mem_cons] at hq' ⊢
    rcases hq' with h | h | h | h | h
    · exact .inl (ofT h)
    · exact .inr (.inl h)
    · exact .inr (.inr (.inl h))
    · exact .inl (ofR h)
    · exact .inr (.inr (.inr h)))
  refine wpAny_call ?_
  obtain ⟨FG, BG, st, _⟩ := groundX (A := c.A) (A₀ := c.A₀) (env := c.env) (R := fun _ _ => True) G.below F Nw rfl rfl ok.fn
  refine codeAny_call_def (fd := fnOf (.ofString "_parse_varint") (.ofString "_parse_varint") a97 b97 s97 .none .none .none (.str (.ofString "cpy313.dis") 433) none (.ref (nat_lit 96)) .none) (body := b97) (binds := [(.ofString "iterator", .ref I)]) hroom (XK (nat_lit 97) _ rfl) ?_ Tp.nolimit (codeRec_of XK (cd_parse_varint _)) rfl (BindsTo.of_eq rfl) (by decide) ?_ (fun h₁ hns hk₁ => ?_) rfl rfl rfl
  · rfl
  · intro y hy
    rw [List.mem_singleton] at hy; subst hy; rfl
  let g := hideAll s.heap (nw.map (·.1))
  let L' := s.heap.objs.size
  let c' : Cx := { c with dp := c.dp + 1, un := c.un + 3, cn := .ofString "_parse_varint", cs := s97, a := (nat_lit 97), ccd := .ref (nat_lit 96), cl := [], outer := c.env :: c.outer, A₀ := c.A, h₀ := g, L := L', pin := none, still := true, keep := [] }
  have ok' : c'.Ok 0 := ⟨ok.kin, ok.top, ok.code1, ok.code2, rfl, by have := ok.room; show c.dp + 1 + 0 < _; lia, by have := ok.units; show c.un + 3 + 8 * 0 + 8 < _; lia⟩
  have C' : c'.Is s97 0 := ⟨rfl, rfl, .inl ⟨0, rfl, rfl⟩, ok'⟩
  have G' : GOk c' g := ⟨KtsTurn.refl, BG, fun b hb => by
    have hb' : b ∈ c.L :: c.fs := hb
    rcases List.mem_cons.mp hb' with rfl | hb'
    · obtain ⟨o, es, ep, e, hd, _⟩ := FG.ns
      exact ⟨o, es, ep, e, hd⟩
    · obtain ⟨o, es, n, e, hd⟩ := G.dicts b hb'
      exact ⟨o, es, n, FG.keep _ _ e, hd⟩, fun _ => rfl⟩
  have F' : Fr g L' h₁ (fun y => [((.ofString "iterator" : Str), Value.ref I)].reverse.lookup y) := ⟨hns, fun b o e => hk₁ b o (of_hideAll _ e), Nat.le_of_eq (hideAll_size _ _)⟩
  have N' : News g L' h₁ nw := fun p hp => ⟨hk₁ _ _ (Nw p hp).1, Nat.ne_of_lt (Heap.lt_size (Nw p hp).1), hideAll_none _ (List.mem_map_of_mem hp)⟩
  have sTab : ∀ q ∈ tabsOf own, ∀ r ∈ restOf own, q.1 ≠ r.1 := fun q hq r hr => tab_ne (List.mem_filter.mp hq).2 (by have := (List.mem_filter.mp hr).2; simpa using this)
  have H' : At c' ((I, o) :: (restOf own ++ hid)) z c'.env [(.ofString "iterator", .raw (.ref I))] { s with heap := h₁, toks := s.toks + 1 } := by
    refine ⟨⟨_, g⟩, tabsOf own, F', N', fun q hq r hr => ?_, fun q hq r hr => ?_, ⟨G', rfl, rfl, rfl, fun _ e => nomatch e⟩, fun x l hx => ?_, fun x y b xs ys hx _ => ?_, fun _ => ⟨fun x cd hx => (by cases (show (none : Option Addr) = some cd from hx)), fun x y cd hx _ => (by cases (show (none : Option Addr) = some cd from hx)), fun y q us hy => ?_⟩, C.2.tabs.keep fun _ h => nomatch h⟩
    · rcases List.mem_append.mp hr with hr | hr
      · exact S1 q (ofT hq) r (List.mem_append_left _ hr)
      · rcases List.mem_cons.mp hr with rfl | hr
        · exact S1 q (ofT hq) _ (List.mem_append_right _ (.head _))
        · rcases List.mem_append.mp hr with hr | hr
          · exact sTab q hq r hr
          · exact S1 q (ofT hq) r (List.mem_append_right _ (.tail _ hr))
    · rcases List.mem_cons.mp hr with rfl | hr
      · exact S2 q hq _ (.head _)
      · rcases List.mem_append.mp hr with hr | hr
        · exact Ne.symm (S1 r (ofR hr) q (List.mem_append_left _ hq))
        · exact S2 q hq r (.tail _ hr)
    · unfold sget at hx
      rw [List.lookup_cons] at hx
      cases e : x == (.ofString "iterator" : Str) with
      | false => rw [e] at hx; cases hx
      | true =>
        rw [e] at hx; cases hx
        rw [beq_iff_eq.mp e]
        exact .inl ⟨rfl, .inl ⟨rfl, rfl⟩⟩
    · unfold sget at hx
      rw [List.lookup_cons] at hx
      cases e : x == (.ofString "iterator" : Str) with
      | false => rw [e] at hx; cases hx
      | true => rw [e] at hx; cases hx
    · unfold sget at hy
      rw [List.lookup_cons] at hy
      cases e : y == (.ofString "iterator" : Str) with
      | false => rw [e] at hy; cases hy
      | true => rw [e] at hy; cases hy
  have hI' : ∀ q ∈ restOf own ++ hid, I ≠ q.1 := fun q hq => by
    rcases List.mem_append.mp hq with hq | hq
    · exact Ne.symm (S1 q (ofR hq) (I, o) (List.mem_append_right _ (.head _)))
    · exact hI q hq
  have nL : ∀ {p : Addr × Obj} {h2 : Heap} {own2 z2 hid2 : List (Addr × Obj)}, News g L' h2 (own2 ++ (z2 ++ hid2)) → p ∈ own2 ++ (z2 ++ hid2) → h2.get? p.1 = some p.2 ∧ p.1 ≠ c.L ∧ m.g.get? p.1 = none := fun {p h2 own2 z2 hid2} N2 hp2 => by
    obtain ⟨a1, a2, a3⟩ := N2 p hp2
    obtain ⟨oL, es, ep, e, _⟩ := FG.ns
    refine ⟨a1, fun q => ?_, ?_⟩
    · rw [q, show g.get? c.L = some oL from e] at a3; cases a3
    · cases q : m.g.get? p.1 with
      | none => rfl
      | some ob => rw [show g.get? p.1 = some ob from FG.keep _ _ q] at a3; cases a3
  refine wpAny_mono (parse_ps C' hvs hD (restOf own ++ hid) z _ o hI' hi hp H' _ (by passes_own) ?_) (fun fl s' hps => ?_) fun _ _ e => e
  · intro hnone e s' z' σ' h1 hz H1 hx sm
    obtain ⟨m2, own2, F2, N2, S12, S22, k2, _, _, _, T2⟩ := H1
    have eg : m2.g = g := k2.gok.same rfl
    rw [eg] at F2 N2
    have ofT2 : ∀ {p}, p ∈ tabsOf own2 → p ∈ own2 := fun h => (List.mem_filter.mp h).1
    refine leave_newS BG hx F2 N2 (fun h' R _ hup => ?_) rfl
    refine hE hnone e { s' with heap := h' } ⟨m, own, tabsOf own2 ++ restOf own, z', _, g, X, FG, hz, fun q hq => ?_, fun p hp hn => List.mem_append_right _ (nt hp hn), fun q hq r hr => ?_, fun q hq r hr => S22 q hq r (List.mem_append_right _ hr), (T2.tabs.mono (fun _ h => h) fun _ _ h => List.mem_append_left _ h).keep fun p hp => hz p (C.2.kept p hp), R, hup, sm⟩
    · have a1 := @ofT2 q
      simp only [List.mem_append] at hq ⊢
      grind
    · rcases List.mem_append.mp hq with hq | hq
      · rcases List.mem_append.mp hr with hr | hr
        · exact S12 q (ofT2 hq) r (List.mem_append_left _ hr)
        · exact S12 q (ofT2 hq) r (List.mem_append_right _ (List.mem_append_right _ hr))
      · rcases List.mem_append.mp hr with hr | hr
        · exact Ne.symm (S22 r hr q (List.mem_append_left _ hq))
        · exact S1 q (ofR hq) r (List.mem_append_right _ (.tail _ hr))
  · obtain ⟨z', oo, σ', i', o', hz, hi2, H2, ho, sm, x, rfl, hvar, h1, h2⟩ := hps
    obtain ⟨v, rfl, hv⟩ := ho
    unfold VR at hv
    obtain ⟨t, rfl⟩ := hv
    obtain ⟨m2, own2, F2, N2, S12, S22, k2, _, _, _, T2⟩ := H2
    have eg : m2.g = g := k2.gok.same rfl
    rw [eg] at F2 N2
    have ofT2 : ∀ {p}, p ∈ tabsOf own2 → p ∈ own2 := fun h => (List.mem_filter.mp h).1
    refine hQ z' i' o' s' x t hz hi2 ⟨m, tabsOf own2 ++ restOf own, ⟨FG.ns.keeps F2.keep, fun b ob e => F2.keep b ob (FG.keep b ob e), F.above⟩, fun p hp2 => ?_, fun q hq r hr => ?_, fun q hq r hr => ?_, k, fun x l hx => VarOk.mine X hx (fun p hp hn => List.mem_append_right _ (nt hp hn)) hz, U, fun e => ?_, (T2.tabs.mono (fun _ h => h) fun _ _ h => List.mem_append_left _ h).keep fun p hp => hz p (C.2.kept p hp)⟩ ?_ hvar h1 h2
    · refine nL N2 ?_
      have a1 := @ofT2 p
      simp only [List.mem_append, List.mem_cons] at hp2 ⊢
      grind
    · rcases List.mem_append.mp hq with hq | hq
      · rcases List.mem_append.mp hr with hr | hr
        · exact S12 q (ofT2 hq) r (List.mem_append_left _ hr)
        · rcases List.mem_cons.mp hr with rfl | hr
          · exact S12 q (ofT2 hq) _ (List.mem_append_right _ (.head _))
          · exact S12 q (ofT2 hq) r (List.mem_append_right _ (.tail _ (List.mem_append_right _ hr)))
      · rcases List.mem_append.mp hr with hr | hr
        · exact Ne.symm (S22 r hr q (.tail _ (List.mem_append_left _ hq)))
        · rcases List.mem_cons.mp hr with rfl | hr
          · exact Ne.symm (hI' q (List.mem_append_left _ hq))
          · exact S1 q (ofR hq) r (List.mem_append_right _ (.tail _ hr))
    · rcases List.mem_cons.mp hr with rfl | hr
      · exact S22 q hq _ (.head _)
      · exact S22 q hq r (.tail _ (List.mem_append_right _ hr))
    · refine ⟨fun x cd hx => ?_, (C.1 e).2⟩
      obtain ⟨ob, v₀, a, d⟩ := (C.1 e).1 x cd hx
      exact ⟨ob, v₀, a.imp (fun a => List.mem_append_right _ (nt a (.cell d))) id, d⟩
    · exact sm
end
section
open PySem.F
section
open PyProof.Rows.LCg
variable {prog : Program} {w : World} {A : Around} {E : Value → Shared → Prop} {s : Shared} {h₀ : Heap} {L : Addr} {m : Str → Option Value} {env : Env}
/-- a list comprehension over a text -/
theorem ListComp_S {elt iter : Expr} {x : Str} {px : Pos} {scope : Scope} {cl : List (Str × Addr)} {pos : Pos} {Q : Value → Shared → Prop}
    (hclos : closureFor scope env = pure cl) (hcell : ∀ y ∈ scope.names, y.2 ≠ .cell) (hkind : scope.kind = .function)
    (hnames : ∀ y ∈ scope.names, y.2 = .local → scope.names.lookup y.1 = some .local) (hx : scope.names.lookup x = some .local)
    (h : wpAny (model prog w) A (eval iter env) (fun xv s₁ => ∃ y t news, xv = .str y t ∧ A.handled = none ∧ Fr h₀ L s₁.heap m ∧ News h₀ L s₁.heap news ∧ y.cps.size ≤ sizeLine ∧
      ∀ s₂ : Shared, (∃ h, s₂ = { s₁ with heap := h }) → CompRest prog w A h₀ L m env elt x scope cl s₂ (fun _ => True) (SignAt y) (FinE h₀ L m s₂ Q) y.cps.size 0 [] news) E s)
    (hs : ∀ x, foldedSetIterable iter env x = pure x) :
    wpAny (model prog w) A (eval (.ListComp elt [⟨.Name x px, iter, [], 0⟩] scope pos) env) Q E s := by
  rw [eval_ListComp]
  refine wpAny_comprehension_free (use := none) rfl hs hclos hkind hnames (wpAny_mono h (fun xv s₁ h₁ => ?_) fun _ _ e => e)
  obtain ⟨y, t, news, rfl, hh, F, N, hsz, R⟩ := h₁
  cases ha : y.cps.all (· < 128)
  · refine wpAny_pyIter_wide ha ?_
    refine block_U (Walks.strWide hh _ y t) hsz (fun i h hPat => by obtain ⟨o, e, _⟩ := hPat; exact ⟨o, e⟩) (fun i h h' o nw st e e' _ _ _ => by obtain ⟨o', q, r⟩ := st; rw [e] at q; cases q; exact ⟨o, e', r⟩) hcell hkind hx ⟨_, Heap.get?_push_size _ rfl, rfl, rfl⟩ (fun b hb => ?_)
      (F.keeps fun _ _ e => Heap.get?_push_of_some _ e) (N.grown fun _ _ e => Heap.get?_push_of_some _ e) (Nat.ne_of_lt F.ns.lt) (next_is_new F) (fun p hp => Nat.ne_of_lt (Heap.lt_size (N p hp).1)) trivial (R _ ⟨_, rfl⟩) ?_
    · rw [List.mem_singleton.mp hb]
      show s₁.heap.objs.size < (s₁.heap.push _).objs.size
      rw [Heap.size_push]; exact Nat.lt_succ_self _
    · intro D C h tk m' ys news' F' N' o1 hn hC₀ hD₀ hCL hDL hCD offC fin
      refine ⟨m', hn, fun h'' hs'' => fin D h'' tk (F'.change hs'' hCL hC₀) (fun p hp => ?_) o1⟩
      refine ⟨hs''.extBut _ _ ?_ (N' p hp).1, (N' p hp).2⟩
      rcases List.mem_cons.mp hp with rfl | hp
      · exact Ne.symm hCD
      · exact offC p hp
  · refine wpAny_pyIter_ascii ha ?_
    refine block_U (Walks.strAscii hh _ y t) hsz (fun i h hPat => by obtain ⟨o, e, _⟩ := hPat; exact ⟨o, e⟩) (fun i h h' o nw st e e' _ _ _ => by obtain ⟨o', q, r⟩ := st; rw [e] at q; cases q; exact ⟨o, e', r⟩) hcell hkind hx ⟨_, Heap.get?_push_size _ rfl, rfl, rfl⟩ (fun b hb => ?_)
      (F.keeps fun _ _ e => Heap.get?_push_of_some _ e) (N.grown fun _ _ e => Heap.get?_push_of_some _ e) (Nat.ne_of_lt F.ns.lt) (next_is_new F) (fun p hp => Nat.ne_of_lt (Heap.lt_size (N p hp).1)) trivial (R _ ⟨_, rfl⟩) ?_
    · rw [List.mem_singleton.mp hb]
      show s₁.heap.objs.size < (s₁.heap.push _).objs.size
      rw [Heap.size_push]; exact Nat.lt_succ_self _
    · intro D C h tk m' ys news' F' N' o1 hn hC₀ hD₀ hCL hDL hCD offC fin
      refine ⟨m', hn, fun h'' hs'' => fin D h'' tk (F'.change hs'' hCL hC₀) (fun p hp => ?_) o1⟩
      refine ⟨hs''.extBut _ _ ?_ (N' p hp).1, (N' p hp).2⟩
      rcases List.mem_cons.mp hp with rfl | hp
      · exact Ne.symm hCD
      · exact offC p hp
end

section
open PyProof.Rows.LCg
variable {c : Cx} {env : Env} {σ : Sto} {elt iter : Expr} {x : Str} {px pos : Pos} {scope : Scope} {cl : List (Str × Addr)} {ys : List Str} {Ps : List V → Sto → Prop}
theorem EVO.compS (hp : c.pin = none) (CO : CompOk c env x scope cl ys)
    (h : ∀ m, EV (c.pinned m) env iter σ fun a σ₁ => ∃ (y : List Nat) (g : Nat → V), a = .str (S y) ∧ y.length ≤ 2 ^ 20 ∧ (∀ m i C, i < y.length → EV (c.pinned m) (compEnvC scope cl C env) elt (csto x (.str (S [y.getD i 0])) σ₁ ys) fun V _ => V = g i) ∧ Ps ((List.range y.length).map g) σ₁)
    (hs : ∀ v, foldedSetIterable iter env v = pure v) : EVO c env (.ListComp elt [⟨.Name x px, iter, [], 0⟩] scope pos) σ Ps := fun hid z s H E => by
  obtain ⟨m, Hm, F, G⟩ := H.pin hp
  refine ListComp_S (cl := cl) (h₀ := m.g) (L := c.L) (m := m.m) CO.clos CO.nocell CO.kind CO.names CO.hx ?_ hs
  refine wpAny_mono (h m hid z s Hm E) (fun va s₁ hPat => ?_) fun _ _ e => e
  obtain ⟨z₁, a, σ₁, hz₁, H₁, ha, sm₁, y, g, e, hl, turn, hP⟩ := hPat
  subst e
  unfold VR at ha
  obtain ⟨t, rfl⟩ := ha
  obtain ⟨m₁, own, X⟩ := H₁
  obtain rfl : m₁ = m := X.x5.pin m rfl
  have hsz : (S y).cps.size = y.length := by simp
  refine ⟨S y, t, _, rfl, rfl, X.x1, X.x2, by rw [hsz, sizeLine_eq]; lia, fun s₂ hPat => ?_⟩
  obtain ⟨h2, e2⟩ := hPat
  have sm₂ : Same s₁ s₂ := by subst e2; exact ⟨rfl, rfl, rfl⟩
  have S1 := X.x3
  have S2 := X.x4
  rw [hsz]
  refine comp_rest X CO (items := fun i => .str (S [y.getD i 0])) sm₂ (fun i v hv => ?_) (fun _ _ _ _ => trivial) (fun i C hi => turn m₁ i C hi) (fun us z' own' hz' ho' tb' S1' S2' hv => ?_) y.length 0 [] z₁ own (by lia) (fun _ h => h) (fun _ h _ => h) X.x8.2 S1 S2 VRs.nil
  · obtain ⟨cc, u, hcc, rfl⟩ := hv
    unfold VR
    refine ⟨u, ?_⟩
    have : y[i]? = some cc := by simpa using hcc
    rw [List.getD_eq_getElem?_getD, this]; rfl
  · intro D h tk F' N' off
    obtain ⟨H', hq⟩ := comp_end (s := s₂) (tk := tk) (W := (List.range y.length).map g) X G hp hz' ho' tb' S1' S2' F' N' off
    exact ⟨z', _, σ₁, D, us, us.length, fun p hp => hz' p (hz₁ p hp), rfl, hq, H', hv, sm₁.trans (sm₂.trans ⟨rfl, rfl, rfl⟩), hP⟩
end
section
variable {prog : Program} {w : World} {A : Around} {E : Value → Shared → Prop} {s : Shared}
theorem iter_list {l : Addr} {items : Array Value} {Q : Value → Shared → Prop} (hl : s.heap.IsList l items) (h : Q (.ref s.heap.objs.size) { s with heap := s.heap.push { cls := .type "list_iterator", data := .fields #[.ref l, .int 0 0] } }) :
    wpAny (model prog w) A (call (.builtin "iter") [.ref l]) Q E s := by
  refine call_function_entry (by decide +kernel) (by decide +kernel) kdk_entry_iter (kdk_args_iter _) ?_
  unfold Builtin.«iter»
  refine wpAny_bind (m := someArgs "iter" 1 2 _) (wpAny_of_eq (a := [Value.ref l]) (by first | rfl | kernel_rfl!) ?_)
  show wpAny _ _ (pyIter (.ref l) >>= _) _ _ _
  refine wpAny_bind (wpAny_pyIter_list hl ?_)
  exact wpAny_pure ⟨_, rfl, h⟩
end
end
section
open PySem.F
section
variable {c : Cx} {hid hid' z : List (Addr × Obj)} {σ : Sto} {s : Shared} {x : Str} {v : Value} {E : Value → Shared → Prop}
theorem At.perm {env : Env} (H : At c hid z env σ s) (h : ∀ q, q ∈ hid ↔ q ∈ hid') : At c hid' z env σ s := by
  obtain ⟨m, own, F, N, S1, S2, k, V, U, C⟩ := H
  refine ⟨m, own, F, fun q hq => N q ?_, fun q hq r hr => S1 q hq r ?_, fun q hq r hr => S2 q hq r ((h r).mpr hr), k, fun x l hx => (V x l hx).mono (fun _ h => h) (fun _ h => h) fun q hq => (h q).mp hq, U, C⟩
  · have := h q
    simp only [List.mem_append] at hq ⊢; grind
  · have := h r
    simp only [List.mem_append] at hr ⊢; grind
end
theorem stop_sub : isSubtype (.type "StopIteration") (.type "StopIteration") = pure true := isSubtype_stop
theorem try_turn {c : Cx} (C : c.Is s146 3) (hst : c.still = false) {dp0 un0 : Nat} (hdp : c.dp = dp0 + 1) (hun : c.un = un0 + 3) {I la : Addr} {o : Obj} {hid z : List (Addr × Obj)} {σ : Sto} {s : Shared} {vs : List Value} {nn i : Nat} {D nums : List Nat} {b : Addr} {Q : Flow → Shared → Prop} {E : Value → Shared → Prop} (hvs : IntsAre vs (ns D)) (hD : D.length ≤ 2000) (hnl : nums.length ≤ 4000)
    (hI : ∀ q ∈ hid, I ≠ q.1) (hi : ItAt la i o) (hp : PP c.base z la (lobj vs nn)) (H : At c ((I, o) :: hid) z c.env σ s) (hE : EOk c E)
    (ht : sget σ (.ofString "tape") = some (.raw (.ref I))) (hn : sget σ (.ofString "numbers") = some (.own b (ivs (ns nums)))) {p1 p2 p3 p4 p5 p6 p7 p8 p9 p10 p11 p12 : Pos} (hline : (p2.endLine == p6.line) = true)
    (hQn : ∀ z' i' o' s' x, Sub z z' → ItAt la i' o' → At c ((I, o') :: hid) z' c.env (sput σ (.ofString "numbers") (.own b (ivs (ns (nums ++ [x]))))) s' → Same s s' → varT 0 (D.drop i) = some (x, D.drop i') → i < i' → i' ≤ D.length → Q .next s')
    (hQr : varT 0 (D.drop i) = none → ∀ z' s' v, Sub z z' → At c hid z' c.env [] s' → VR (PP c.base z') (.lst (ivs (ns nums))) v → Same s s' → Q (.ret v) s') :
    wpAny c.M c.A (execs [.Try [.Expr (.Call (.Attribute (.Name (.ofString "numbers") p1) (.ofString "append") p2) [.Call (.Name (.ofString "_parse_varint") p3) [.Name (.ofString "tape") p4] [] p5] [] p6) p7] [.ExceptHandler (some (.Name (.ofString "StopIteration") p8)) none [.Return (some (.Name (.ofString "numbers") p9)) p10] p11] [] [] p12] c.env) Q E s := by
  refine wpAny_execs_cons (wpAny_Try_except ?_)
  refine wpAny_execs_cons ?_
  obtain ⟨a, vs1, n1, load, hg, hr, w⟩ := H.peek (.own hn) (by decide) (by decide)
  have hab : a = b := by
    rcases w with ⟨b', e, rfl⟩ | ⟨b', e, rfl⟩ | ⟨e, _⟩
    · rw [hn] at e; cases e; rfl
    · rw [hn] at e; cases e
    · rw [hn] at e; cases e
  subst hab
  refine wpAny_Expr_any (wpAny_Call_method (T := "list") (id := "list.append") rfl rfl hline PySem.F.plainAttrs_list PySem.slot_list_append (by rfl) (load _ _ _ ⟨(isL hg).typeIs, fun q e => by cases e; exact ⟨_, hg, rfl⟩, ?_⟩)) H.fn_env rfl
  refine Calls.callWith_builtin rfl (Calls.evalArgs_plain (Calls.spliced_cons ?_))
  -- the call
  show wpAny _ _ (do callWith p5 (← eval (.Name (.ofString "_parse_varint") p3) c.env) [] (backTo p5 (starEach [.Name (.ofString "tape") p4] c.env)) (backToKw p5 (keywordEach [] c.env))) _ _ s
  obtain ⟨m, own, X⟩ := id H
  obtain ⟨F, N, S1, S2, k, V, U, CC⟩ := id X
  have kin : (K c.w.params).In s.heap := C.ok.kin.keeps H.base
  refine wpAny_bind (Name_function_global k.kind (C.kind rfl) (loadGlobal_global (mg := c.mg) (k.globals ▸ C.ok.top.g.keeps H.base) (mg_of C.ok.kin C.ok.top.g (ns_parse_varint _)) ?_) (by decide))
  refine callWith_K C.ok.kin (kp_parse_varint _) ?_ rfl rfl
  refine spliced_more ?_ rfl
  refine Src.load (V _ _ ht) k.kind F N ?_ (by decide) (by decide)
  refine spliced_none ⟨kin, ?_⟩
  refine parse_call (C.ok.le (by decide)) C.pin hvs hD hI hi hp H (fun z' i' o' s' x t hz hi' H' sm hv h1 h2 => ?_) (fun hnone e s' fell => ?_)
  · refine Calls.spliced_nil ?_
    obtain ⟨m', own', X'⟩ := id H'
    obtain ⟨hs, vs', n', hm, hr'⟩ := X'.x6 _ _ hn
    have hg' := (X'.x2 _ (List.mem_append_left _ hm)).1
    refine wpAny_list_append_plain (items := vs'.toArray) ⟨n', hg'⟩ (fun h' ⟨n'', hp⟩ hs' => ?_) (by rw [List.size_toArray, hr'.len, List.length_map, List.length_map, sizeLine_eq]; lia)
    have hp' : h'.get? a = some (lobj (vs' ++ [.int ((x : Nat) : Int) t]) n'') := by rw [hp]; simp [lobj]
    have hv' : VRs (PP c.base z') (ivs (ns (nums ++ [x]))) (vs' ++ [.int ((x : Nat) : Int) t]) := by
      rw [show ivs (ns (nums ++ [x])) = ivs (ns nums) ++ [Mine.V.int ((x : Nat) : Int)] by simp [ivs, ns]]
      exact hr'.app (VRs.cons (by unfold VR; exact ⟨t, rfl⟩) VRs.nil)
    have H2 := At.mutate (t := s'.toks) X' hn hm hs' hp' hv'
    refine wpAny_execs_nil ?_
    refine wpAny_execs_nil ?_
    refine wpAny_execs_nil ?_
    exact hQn z' i' o' _ x hz hi' H2 sm hv h1 h2
  · obtain ⟨m1, own1, own', z', news, G, X1, FG, hz, hsub, hso, S1', S2', tb', R, hup, sm⟩ := fell
    obtain ⟨F1, N1, S11, S21, k1, V1, U1, C1⟩ := id X1
    have clnil : c.cl = [] := by
      obtain ⟨kk, e, _⟩ | ⟨e, _⟩ := C.cl
      rotate_left
      · rw [hst] at e; cases e
      rw [e, show cellsFrom kk s146.names [] = [] from cells_none (by decide)]
    have ecs := C.cs
    have eenv : c.env = envOf c.cn c.cs c.L c.a c.ccd := by show envX c.cn c.cs c.L c.a c.ccd c.cl = _; rw [clnil]; rfl
    have hkind : c.env.kindOf (.ofString "numbers") = some .local := C.kind rfl
    obtain ⟨hsrc, vs2, n2, hm2, hr2⟩ := V1 _ _ hn
    have hmine := hsrc.mine X1
    have hmm : m1.m (.ofString "numbers") = some (.ref a) := by
      rcases hmine with ⟨_, ⟨_, h⟩ | ⟨oC, m₂, q, _⟩⟩ | ⟨kk, _⟩
      · exact h
      · exact absurd rfl (N1 _ ((List.mem_append.mp q).elim (List.mem_append_left _) fun q => List.mem_append_right _ (List.mem_append_left _ (C1.2.kept _ q)))).2.1
      · rw [hkind] at kk; rcases kk with kk | kk <;> cases kk
    have hE2 := hE.caught e
    have hkn : (envOf c.cn c.cs c.L c.a c.ccd).kindOf (.ofString "StopIteration") = some .globalImplicit := by rw [← eenv]; exact C.kind rfl
    have fin : ∀ (h' g' : Heap), KtsTurn c.fs c.h₀ g' → Fr g' c.L h' m1.m → News g' c.L h' news → Below c.A₀ c.base c.outer g' → KtsDicts c.fs g' →
        wpAny c.M (c.A.mark (some (.ref e))) (execs [.Return (some (.Name (.ofString "numbers") p9)) p10] c.env) (fun f s₁ => match f with | .next => wpAny c.M c.A (execs [] c.env) Q E s₁ | f => Q f s₁) E { s' with heap := h' } := fun h' g' T' F' N' B' D' => by
      refine wpAny_execs_cons ?_
      show wpAny _ _ (do standAt p10; return Flow.ret (← eval (.Name (.ofString "numbers") p9) c.env)) _ _ _
      refine wpAny_bind (wpAny_standAt (wpAny_bind (wpAny_Name (wpAny_loadName_local k1.kind hkind F'.ns hmm (wpAny_pure ?_)) (by decide))))
      have ham : (a, lobj vs2 n2) ∈ own' := hso _ hm2 .lobj
      have Nall : ∀ q ∈ own' ++ (z' ++ hid), h'.get? q.1 = some q.2 ∧ q.1 ≠ c.L ∧ g'.get? q.1 = none := fun q hq => N' q (hsub q hq)
      have hnt : isTab (a, lobj vs2 n2) = false := tb'.nt (c := c) (m := ⟨m1.m, g'⟩) (hid := hid) Nall ham .lobj
      have ofT : ∀ {p}, p ∈ tabsOf own' → p ∈ own' := fun h => (List.mem_filter.mp h).1
      refine hQr hnone ((a, lobj vs2 n2) :: z') _ _ (fun q hq => .tail _ (hz q hq)) ⟨⟨m1.m, g'⟩, tabsOf own', F', fun q hq => Nall q ?_, fun q hq r hr => ?_, fun q hq r hr => ?_, ⟨⟨T', B', D', fun e => by rw [hst] at e; cases e⟩, k1.kind, k1.globals, k1.builtins, fun m₀ e => by rw [C.pin] at e; cases e⟩, fun x l hx => (by cases hx), fun x y b xs ys hx => (by cases hx), fun _ => ⟨fun x cd hx => (by rw [clnil] at hx; cases hx), fun x y cd hx => (by rw [clnil] at hx; cases hx), fun y q us hy => (by cases hy)⟩, tb'.tabs.mono (fun q h => .tail _ h) fun _ _ h => h⟩ ?_ sm
      · simp only [List.mem_append, List.mem_cons, List.cons_append] at hq ⊢
        rcases hq with h | h | h | h
        · exact .inl (ofT h)
        · rw [h]; exact .inl ham
        · exact .inr (.inl h)
        · exact .inr (.inr h)
      · rcases List.mem_cons.mp hr with rfl | hr
        · exact tab_ne (List.mem_filter.mp hq).2 hnt
        · exact S1' q (ofT hq) r hr
      · rcases List.mem_cons.mp hq with rfl | hq
        · exact S1' _ ham r (List.mem_append_right _ hr)
        · exact S2' q hq r hr
      · unfold VR
        exact ⟨a, vs2, n2, rfl, .inr (.head _), hr2.mono (PP.mono fun q hq => .tail _ (hz q hq))⟩
    let A0 : Around := { handled := none, depth := dp0, frames := some c.outer, guards := c.gd, units := un0 }
    have eA : A0.deeper (envOf c.cn c.cs c.L c.a c.ccd) = c.A := by
      rw [← eenv]
      show ({ handled := none, depth := dp0 + 1, frames := some (c.env :: c.outer), guards := c.gd, units := un0 + 3 } : Around) = { handled := none, depth := c.dp, frames := some (c.env :: c.outer), guards := c.gd, units := c.un }
      rw [hdp, hun]
    have R' : RaisedSN c.base G (envOf c.cn c.cs c.L c.a c.ccd :: c.outer) e (.type "StopIteration") news s'.heap := eenv ▸ R
    have K' : Below A0 c.base c.outer m1.g := ⟨rfl, k1.gok.below.stays, k1.gok.below.frames⟩
    have key := caught_SN0 (prog := c.prog) (w := c.w) (A₀ := A0) (E := E) (s' := s') (g₀ := c.h₀) (KF := K c.w.params) (p := topProg) (loose := looseG) (mean := c.mean) (mg := c.mg) (mb := c.mb) (x := .ofString "StopIteration") (X := "StopIteration") (T' := "StopIteration") (np := p8) (rest := []) (pos := p11)
      (b₀ := .Return (some (.Name (.ofString "numbers") p9)) p10) (suite := []) (Q := fun f s₁ => match f with | .next => wpAny c.M c.A (execs [] c.env) Q E s₁ | f => Q f s₁) R' FG K' hup C.ok.kin C.ok.top k1.gok.dicts k1.gok.turn (ns_StopIteration _) (by kernel_rfl) (by decide) (by rw [isSubtype_type]; kernel_rfl) (by kernel_rfl) stop_sub
      (fun h' g' T' F' N' B' _ _ D' => by rw [eA, ← eenv]; exact fin h' g' T' F' N' ⟨k1.gok.below.stack, B'.stays, B'.frames⟩ D') (by rw [ecs]) hkn (by decide) (by rw [eA, ← eenv]; exact hE2)
    rw [eA, ← eenv] at key
    exact key
end
section
open PySem.F
theorem numbers_body {c : Cx} (C : c.Is s146 3) (hst : c.still = false) {dp0 un0 : Nat} (hdp : c.dp = dp0 + 1) (hun : c.un = un0 + 3) (l : List Nat) (hl : l.length ≤ 2000) {hid z : List (Addr × Obj)} {s : Shared}
    (H : At c hid z c.env [(.ofString "text", .frz (.str (S l)))] s) {E : Value → Shared → Prop} (hE : EOk c E) : wpAny c.M c.A (execs b146 c.env) (SP c hid z s fun o _ => o = .ret (.lst (ivs (ns (numbersT 0 l))))) E s := by
  refine wpAny_execs_cons (wpAny_Assign_Name ?_ rfl)
  show wpAny _ _ (do callWith _ (← eval (.Name (.ofString "iter") _) c.env) [] (backTo _ (starEach _ c.env)) (backToKw _ (keywordEach [] c.env))) _ _ s
  obtain ⟨m, F⟩ := H.fr
  obtain ⟨_, ek⟩ := H.envOk
  have TR := topRead_of C.ok.top
  refine wpAny_bind (Name_function_global ek.kind (C.kind rfl) (loadGlobal_builtin (mg := c.mg) (mb := c.mb) (ek.globals ▸ TR.g.keeps H.base) (mg_none_of C.ok.kin TR.g (ns_iter _)) (ek.builtins ▸ TR.b.keeps H.base) ((TR.builtins _ (by decide)).trans (by rfl)) ?_) (by decide))
  refine callWith_builtin1 ?_ rfl rfl
  refine spliced_more (EV.go (Post := fun a σ₁ => a = .lst (ivs (ns l)) ∧ σ₁ = [(.ofString "text", .frz (.str (S l)))]) (EVO.toEV (EVO.compS C.pin (C.comp (by rfl)) (fun m => ?_) (fun _ => rfl))) H fun z₁ a σ₁ va s₁ hz₁ H₁ ha sm₁ ⟨ea, es⟩ => ?_) rfl
  · repeat walk_at "rr"
    refine ⟨l, fun i => .int ((l.getD i 0 : Nat) : Int), rfl, by omega, fun m i CC hi => ?_, ?_, rfl⟩
    · repeat walk_at "rr"
      exact CallOk.ord rfl
    · have := gen_ns (l := l) (g := fun x => x)
      rw [List.map_id'] at this
      rw [this]
  subst ea es
  unfold VR at ha
  obtain ⟨la, vs, nn, rfl, hp, hr⟩ := ha
  have hvs : IntsAre vs (ns l) := hr.toInts
  refine spliced_none ?_
  refine iter_list (isL (H₁.get hp)) ?_
  have hne : la ≠ s₁.heap.objs.size := Nat.ne_of_lt (Heap.lt_size (H₁.get hp))
  have hI0 := H₁.new_off (o := default)
  have H₂ := H₁.pushH (o := { cls := .type "list_iterator", data := .fields #[.ref la, .int 0 0] })
  generalize hI : s₁.heap.objs.size = I at H₂ hI0
  refine wpAny_mono (H₂.storeRaw (C.loc rfl)) (fun _ s₃ hPat => ?_) fun _ _ e => e
  obtain ⟨H₃, sm₃⟩ := hPat
  have sm13 : Same s s₃ := sm₁.trans (Same.trans (b := { s₁ with heap := s₁.heap.push { cls := .type "list_iterator", data := .fields #[.ref la, .int 0 0] } }) ⟨rfl, rfl, rfl⟩ sm₃)
  have hi0 : ItAt la 0 { cls := .type "list_iterator", data := .fields #[.ref la, .int 0 0] } := ⟨rfl, rfl⟩
  generalize ({ cls := .type "list_iterator", data := .fields #[.ref la, .int 0 0] } : Obj) = o at H₃ hi0
  -- numbers = []
  refine wpAny_execs_cons ?_
  have hS : S1 c (.Assign [.Name (.ofString "numbers") ⟨117, 4, 117, 11⟩] (.List [] ⟨117, 14, 117, 16⟩) ⟨117, 4, 117, 16⟩) (sput [(.ofString "text", .frz (.str (S l)))] (.ofString "tape") (.raw (.ref I))) (fun oo σ => oo = .nxt ∧ ∃ b, σ = [(.ofString "text", .frz (.str (S l))), (.ofString "tape", .raw (.ref I)), (.ofString "numbers", .own b (ivs (ns [])))]) := by
    repeat walk_at "rr"
    exact ⟨Nat.le_of_ble_eq_true rfl, fun b => ⟨rfl, b, rfl⟩⟩
  refine wpAny_mono (hS _ z₁ s₃ H₃ E) (fun fl s₄ hPat => ?_) fun _ _ e => e
  obtain ⟨z₄, oo, σ₄, hz₄, H₄, ho, sm₄, e1, b, e2⟩ := hPat
  subst e1 e2
  cases ho
  -- the loop
  refine wpAny_execs_cons ?_
  refine wpAny_For (range_call (R := fun k σ₁ => k = l.length + 1 ∧ σ₁ = [(.ofString "text", .frz (.str (S l))), (.ofString "tape", .raw (.ref I)), (.ofString "numbers", .own b (ivs (ns [])))]) C.ok (ns_range _) (C.kind rfl) ?_ H₄ rfl fun z₅ k σ₅ r t u v s₅ hz₅ H₅ hp5 sm₅ ⟨hk, e5⟩ => ?_) (fun _ => rfl)
  · repeat walk_at "rr"
    refine CallOk.lenStr (by rw [S_len]; omega) ?_
    repeat walk_at "rr"
    exact ⟨l.length + 1, by rw [S_len]; simp, rfl, rfl⟩
  subst hk e5
  have hg := H₅.get hp5
  refine wpAny_pyIter_range hg (rangeSmall_nat (by omega)) ?_
  rw [rangeSize_nat]
  have H₆ := H₅.pushH (o := { cls := .type "range_iterator", data := .fields #[rawInt 0, rawInt (l.length + 1 : Nat), rawInt 1] })
  have hR0 := H₅.new_off (o := default)
  have W := Walks.range (prog := c.prog) (w := c.w) (A := c.A) rfl s₅.heap.objs.size 0 1 (l.length + 1)
  generalize hRg : s₅.heap.objs.size = Rg at H₆ hR0 W
  have hRI : Rg ≠ I := hR0 (I, o) (.head _)
  have hRh : ∀ q ∈ hid, Rg ≠ q.1 := fun q hq => hR0 q (.tail _ hq)
  have hIall : ∀ (oo : Obj), ∀ q ∈ (Rg, oo) :: hid, I ≠ q.1 := fun oo q hq => by
    rcases List.mem_cons.mp hq with rfl | hq
    · exact Ne.symm hRI
    · exact hI0 q hq
  have hRall : ∀ (oo : Obj), ∀ q ∈ (I, oo) :: hid, Rg ≠ q.1 := fun oo q hq => by
    rcases List.mem_cons.mp hq with rfl | hq
    · exact hRI
    · exact hRh q hq
  have swp : ∀ {p q : Addr × Obj} (r : Addr × Obj), r ∈ p :: q :: hid ↔ r ∈ q :: p :: hid := fun r => by simp only [List.mem_cons]; grind
  let rg : Nat → Obj := fun i => { cls := .type "range_iterator", data := .fields #[rawInt (0 + (i : Int) * 1), rawInt ((l.length + 1 : Nat) - (i : Int)), rawInt 1] }
  have hrg0 : ({ cls := .type "range_iterator", data := .fields #[rawInt 0, rawInt (l.length + 1 : Nat), rawInt 1] } : Obj) = rg 0 := by simp [rg]
  rw [hrg0] at H₆
  refine codeAny_forLoop (fun k s' => ∃ (i : Nat) (z' : List (Addr × Obj)) (σ' : Sto) (o' : Obj) (kk : Nat) (nums : List Nat), k = l.length + 2 - i ∧ i ≤ l.length + 1 ∧ Sub z₅ z' ∧ ItAt la kk o' ∧ At c ((I, o') :: (Rg, rg i) :: hid) z' c.env σ' s' ∧ Same s₅ s' ∧
    sget σ' (.ofString "tape") = some (.raw (.ref I)) ∧ sget σ' (.ofString "numbers") = some (.own b (ivs (ns nums))) ∧ i ≤ kk ∧ kk ≤ l.length ∧ numbersT 0 l = nums ++ numbersT 0 (l.drop kk) ∧ nums.length ≤ i) ?_ (l.length + 2)
    ⟨0, z₅, _, o, 0, [], rfl, Nat.zero_le _, fun _ h => h, hi0, H₆.perm swp, ⟨rfl, rfl, rfl⟩, rfl, rfl, Nat.le_refl _, Nat.zero_le _, rfl, Nat.le_refl _⟩
  rintro k s' ⟨i, z', σ', o', kk, nums, rfl, hi, hz', hit, H', sm, ht, hn, h1, h2, hnum, hlen⟩
  by_cases hlt : i < l.length + 1
  · have hst' : IsRangeIter s'.heap Rg (0 + (i : Int) * 1) ((l.length + 1 : Nat) - (i : Int)) 1 := by
      obtain ⟨_, _, X⟩ := H'
      exact (X.x2 (Rg, rg i) (by simp)).1
    refine W.item i _ _ _ hlt hst' fun v h' tk hP hst2 hk => ?_
    have keep : ∀ q ob, q ≠ Rg → s'.heap.get? q = some ob → h'.get? q = some ob := fun q ob hq e => hk q ob (by simpa using hq) e
    have e2 : h'.get? Rg = some (rg (i + 1)) := by
      have : h'.get? Rg = some _ := hst2
      rw [this]
    have H2 := ((H'.perm swp).swapI (t := tk) (hRall o') keep e2).perm swp
    obtain ⟨t, hv⟩ := hP
    have hV : VR (PP c.base z') (.int (i : Int)) v := by
      unfold VR; exact ⟨t, by rw [hv]; simp⟩
    refine wpAny_assign_Name (wpAny_mono (H2.store hV (C.loc rfl)) (fun _ s6 hPat => ?_) fun _ _ e => e)
    obtain ⟨H6, sm6⟩ := hPat
    refine wpAny_passesOwn hE.own ?_
    have sm' : Same s₅ s6 := sm.trans (Same.trans (b := { s' with heap := h', toks := tk }) ⟨rfl, rfl, rfl⟩ sm6)
    have nt1 : (.ofString "tape" : Str) ≠ .ofString "turn" := by decide
    have nt2 : (.ofString "numbers" : Str) ≠ .ofString "turn" := by decide
    have nt3 : (.ofString "tape" : Str) ≠ .ofString "numbers" := by decide
    have ht' : sget (sput σ' (.ofString "turn") (.frz (.int (i : Int)))) (.ofString "tape") = some (.raw (.ref I)) := by rw [sget_sput_ne nt1]; exact ht
    have hn' : sget (sput σ' (.ofString "turn") (.frz (.int (i : Int)))) (.ofString "numbers") = some (.own b (ivs (ns nums))) := by rw [sget_sput_ne nt2]; exact hn
    have hzall : Sub z z' := fun p hp => hz' p (hz₅ p (hz₄ p (hz₁ p hp)))
    have small : Same s s6 := sm13.trans (sm₄.trans (sm₅.trans ((show Same s₅ { s₅ with heap := s₅.heap.push { cls := .type "range_iterator", data := .fields #[rawInt 0, rawInt (l.length + 1 : Nat), rawInt 1] } } from ⟨rfl, rfl, rfl⟩).trans sm')))
    refine try_turn C hst hdp hun hvs hl (by omega) (hIall _) hit (PP.mono (fun p hp => hz' p (hz₅ p (hz₄ p hp))) _ _ hp) H6 hE ht' hn' rfl (fun z7 i7 o7 s7 x hz7 hit7 H7 sm7 hv7 a7 b7 => ?_) (fun hnone z7 s7 v7 hz7 H7 hv7 sm7 => ?_)
    · refine ⟨l.length + 2 - (i + 1), by omega, i + 1, z7, _, o7, i7, nums ++ [x], rfl, hlt, fun p hp => hz7 p (hz' p hp), hit7, H7, sm'.trans sm7, ?_, sget_sput_same _ _ _, by omega, b7, ?_, by rw [List.length_append]; simp; omega⟩
      · rw [sget_sput_ne nt3]; exact ht'
      · rw [hnum, numbersT_var, hv7]; simp
    · refine ⟨z7, .ret _, [], fun p hp => hz7 p (hzall p hp), H7.drop, ⟨v7, rfl, hv7⟩, small.trans sm7, ?_⟩
      rw [hnum, numbersT_var (l.drop kk), hnone, List.append_nil]
  · omega
end
section
theorem numbers_fn (l : List Nat) (hl : l.length ≤ 2000) : FnT (nat_lit 146) 4 [.str (S l)] (.lst (ivs (ns (numbersT 0 l)))) :=
  FnT.introE (n := 3) (name := .ofString "_law_numbers") (qual := .ofString "_law_numbers") (params := a146) (body := b146) (scope := s146) (pm := .str (.ofString "law_uc0003_01") 513) (cdv := .ref (nat_lit 145)) (ps := [.ofString "text"]) (fun _ => rfl) cd_law_numbers (lens1 rfl fun v => rfl) rfl rfl (by decide) (by decide) rfl rfl rfl
    fun c C hst dp0 un0 hdp hun hid z s H E hE => numbers_body C hst hdp hun l hl H hE
end
section
open PySem.Builtin PySem.Builtin.Re
section
variable {prog : Program} {w : World} {A : Around} {E : Value → Shared → Prop} {s : Shared}
theorem it_same {m : Sre.M} {j k : Nat} (h : (it j m).outcome.isSome = true) (hk : j ≤ k) : it k m = it j m := by
  obtain ⟨d, rfl⟩ : ∃ d, k = j + d := ⟨k - j, by lia⟩
  rw [it_add, it_done h]
theorem wp_drive {P : Sre.M → Prop} {Q : Sre.M → Shared → Prop} : ∀ (turns k : Nat) (m : Sre.M), Ends m k P → k < 4 * turns → (∀ m', m'.outcome.isSome = true → P m' → Q m' s) → wpAny (model prog w) A (reDrive turns m) Q E s
  | 0, k, m, h, hk, hq => by lia
  | t + 1, k, m, ⟨j, hj, ho, hP⟩, hk, hq => by
    unfold reDrive
    show wpAny _ _ (if ((m.runFor 4).outcome.isSome) = true then pure (m.runFor 4) else do rule "sre.turn"; reDrive t (m.runFor 4)) _ _ _
    rw [runFor_it]
    by_cases h : (it 4 m).outcome.isSome = true
    · rw [if_pos h]
      refine wpAny_pure (hq _ h ?_)
      rcases Nat.le_total j 4 with q | q
      · rw [it_same ho q]; exact hP
      · rw [← it_same h q]; exact hP
    · rw [if_neg h]
      have hj4 : 4 < j := by
        rcases Nat.lt_or_ge 4 j with q | q
        · exact q
        · rw [it_same ho q] at h; exact absurd ho h
      refine wpAny_bind (wpAny_rule (wp_drive t (k - 4) (it 4 m) ⟨j - 4, by lia, ?_, ?_⟩ (by lia) hq))
      · rw [← it_add, show 4 + (j - 4) = j by lia]; exact ho
      · rw [← it_add, show 4 + (j - 4) = j by lia]; exact hP
theorem wp_end {P : Sre.M → Prop} {k : Nat} {m : Sre.M} {Q : Option Sre.M → Shared → Prop} (h : Ends m k P) (hk : k < 2 ^ 60) (hq : ∀ m', P m' → (m'.outcome = some .matched ∧ Q (some m') s) ∨ (m'.outcome = some .failed ∧ Q none s)) : wpAny (model prog w) A (reRunToEnd m) Q E s := by
  unfold reRunToEnd
  refine wpAny_bind (wp_drive _ k m h (by lia) fun m' ho hP => ?_)
  refine wpAny_bind (m := forIn _ _ _) ?_
  have rules : ∀ l : List Nat, wpAny (model prog w) A (forIn l PUnit.unit fun i _ => if m'.seen.has i = true then do
      rule (Sre.names.getD i "")
      pure (ForInStep.yield PUnit.unit) else pure (ForInStep.yield PUnit.unit)) (fun _ s' => s' = s) E s := by
    intro l
    induction l with
    | nil => rw [List.forIn_nil]; exact wpAny_pure rfl
    | cons i l ih =>
      rw [List.forIn_cons]
      by_cases h : m'.seen.has i = true
      · rw [if_pos h]; exact wpAny_bind (wpAny_bind (wpAny_rule (wpAny_pure ih)))
      · rw [if_neg h]; exact wpAny_bind (wpAny_pure ih)
  refine wpAny_mono (rules _) (fun _ s' e => ?_) fun _ _ e => e
  subst e
  rcases hq m' hP with ⟨h1, h2⟩ | ⟨h1, h2⟩
  · rw [h1]; exact wpAny_pure h2
  · rw [h1]; exact wpAny_pure h2
/-- the record of a pattern -/
structure Pat (h : Heap) (pat : Addr) (code : Array Nat) : Prop where
  has : ∃ cl d sl vs tup vt k, h.get? pat = some ⟨cl, d, .fields vs, sl⟩ ∧ vs.getD 2 .none = .int 0 0 ∧ vs.getD 6 .none = .int 0 0 ∧ vs.getD 5 .none = .ref tup ∧ h.get? tup = some ⟨.type "tuple", none, .seq vt k, #[]⟩ ∧ (vt.map reRawOf).map (·.toNat) = code
theorem Pat.keeps {h h' : Heap} {pat : Addr} {code : Array Nat} (H : Pat h pat code) (k : ∀ b o, h.get? b = some o → h'.get? b = some o) : Pat h' pat code := by
  obtain ⟨cl, d, sl, vs, tup, vt, n, a, b, c, e, f, g⟩ := H
  exact ⟨cl, d, sl, vs, tup, vt, n, k _ _ a, b, c, e, k _ _ f, g⟩
theorem wp_target {pat : Addr} {code : Array Nat} {l : List Nat} {t : Nat} {Q : ReTarget → Shared → Prop} (H : Pat s.heap pat code) (h : Q { pattern := .ref pat, string := .str (S l) t, code := code, text := l.toArray, kind := 0, groups := 0, pos := 0, lim := l.toArray.size } s) :
    wpAny (model prog w) A (reWholeTarget (.ref pat) (.str (S l) t)) Q E s := by
  obtain ⟨cl, d, sl, vs, tup, vt, n, a, b, c, e, f, g⟩ := H
  unfold reWholeTarget
  refine wpAny_bind ?_
  unfold fieldsOf
  refine wpAny_bind (wpAny_load a (wpAny_pure ?_))
  unfold reTextOf asStr?
  refine wpAny_bind (wpAny_bind (wpAny_pure (wpAny_pure ?_)))
  rw [b, c, e]
  show wpAny _ _ (do
    reNoCollectionInside (Value.str (S l) t) 0
    let x ← reRawItems (.ref tup)
    pure ({ pattern := .ref pat, string := .str (S l) t, code := Array.map (fun x => x.toNat) x, text := l.toArray, kind := 0, groups := 0, pos := 0, lim := l.toArray.size } : ReTarget)) _ _ _
  refine wpAny_bind (wpAny_pure ?_)
  unfold reRawItems
  refine wpAny_bind (wpAny_bind (wpAny_seqItems f rfl (wpAny_pure (wpAny_pure ?_))))
  show Q { pattern := .ref pat, string := .str (S l) t, code := (vt.map reRawOf).map (fun x => x.toNat), text := l.toArray, kind := 0, groups := 0, pos := 0, lim := l.toArray.size } s
  rw [g]; exact h
theorem entry_subloop : entryFor table "re.Pattern.sub.loop" = some Builtin.«re.Pattern.sub.loop» := entryFor_of_fast (by kernel_rfl)
theorem plain_subloop : plainId "re.Pattern.sub.loop" = true := by decide +kernel
theorem entry_sub : entryFor table "re.Pattern.sub" = some Builtin.«re.Pattern.sub» := entryFor_of_fast (by kernel_rfl)
theorem owner_pat : Manifest.owners.lookup (String.ofList ['n', 'r', 'e', 't', 't', 'a', 'P', '.', 'e', 'r'].reverse) = some Manifest.sig_re_Pattern := by kernel_rfl
end
section
theorem slot_re_sub : Slot "re.Pattern" "sub" "re.Pattern.sub" :=
  .of (owner := "re.Pattern") (n := "sub") (by rw [typeLookup_type, builtinLookup_eq_fast]; kernel_rfl) (by decide +kernel) (by decide +kernel) (by decide +kernel)
    (by first | exact .inl (by decide +kernel) | exact .inr (by decide +kernel)) (by rw [isSubtype_type]; kernel_rfl)
theorem type_re_sub : typeOf (.builtin "re.Pattern.sub") = pure (.type "method_descriptor") := by show builtinType _ = _; rw [builtinType_eq_fast]; kernel_rfl
theorem args_re_sub_3 (a b c : Value) : argsOk "re.Pattern.sub" ⟨[a, b, c], []⟩ := by
  unfold argsOk; rw [signature?_of (id := "re.Pattern.sub") (n := ['b', 'u', 's']) (o := ['n', 'r', 'e', 't', 't', 'a', 'P', '.', 'e', 'r']) (by kernel_rfl) owner_pat]; kernel_rfl
theorem plainAttrs_re : PlainAttrs "re.Pattern" := by
  first
  | exact ⟨⟨"re.Pattern.__getattribute__", by rw [typeLookup_type, builtinLookup_eq_fast]; kernel_rfl, by decide +kernel⟩, by rw [typeLookup_type, builtinLookup_eq_fast]; kernel_rfl⟩
  | exact ⟨⟨"object.__getattribute__", by rw [typeLookup_type, builtinLookup_eq_fast]; kernel_rfl, by decide +kernel⟩, by rw [typeLookup_type, builtinLookup_eq_fast]; kernel_rfl⟩
end
end
section
open PySem.Builtin PySem.Builtin.Re
/-- the pieces that are joined -/
noncomputable def subP (F : Nat → Option (Nat × Nat)) (txt rp : List Nat) : Nat → Nat → List (List Nat)
  | 0, _ => []
  | f + 1, p => match F p with
    | none => if p < txt.length then [txt.drop p] else []
    | some (j, e) => (if p < j then [(txt.drop p).take (j - p)] else []) ++ [rp] ++ subP F txt rp f e
section
variable {prog : Program} {w : World}
theorem ext_S (txt : List Nat) (a b : Nat) : (⟨txt.toArray.extract a b⟩ : Str) = S ((txt.drop a).take (b - a)) := by
  simp [S, List.extract_eq_take_drop]
theorem wp_push {A : Around} {E : Value → Shared → Prop} {s : Shared} {h₀ : Heap} {D : Addr} {l : List (Str × Tok)} {k : Nat} {x : Str} {t : Tok} {Q : Unit → Shared → Prop} (hD : h₀.get? D = none) (hk : ∀ b o, h₀.get? b = some o → s.heap.get? b = some o) (hg : s.heap.get? D = some (lobj (strValues l) k)) (hz : l.length ≤ 2 ^ 21)
    (h : ∀ h' k', (∀ b o, h₀.get? b = some o → h'.get? b = some o) → h'.get? D = some (lobj (strValues (l ++ [(x, t)])) k') → Q () { s with heap := h' }) : wpAny (model prog w) A (updateSeq D fun xs => xs.push (.str x t)) Q E s := by
  have hlen : (strValues l).toArray.size = l.length := by simp [strValues]
  refine wpAny_updateSeq hg rfl (h _ (if ((strValues l).toArray.push (.str x t)).size == (strValues l).toArray.size then k else k + 1) (fun b o e => ?_) ?_) (by rw [hlen, sizeLine_eq]; lia) (by rw [Array.size_push, hlen, sizeLine_eq]; lia)
  · have hb : b ≠ D := fun q => by rw [q, hD] at e; cases e
    rw [Heap.get?_update_ne _ _ _ _ hb]
    exact hk b o e
  · rw [Heap.get?_update_self _ hg (by rw [mapSeq_lobj]; rfl), mapSeq_lobj]
    simp [strValues]
theorem wp_slice {A : Around} {E : Value → Shared → Prop} {s : Shared} {txt : List Nat} {a b : Nat} {Q : Value → Shared → Prop} (hlen : txt.length ≤ 100000) (h : Q (.str (S ((txt.drop a).take (b - a))) s.toks) { s with toks := s.toks + 1 }) : wpAny (model prog w) A (reSlice txt.toArray 0 a b) Q E s := by
  unfold reSlice
  rw [if_pos (show ((0 : Nat) == 0) = true from rfl)]
  rw [ext_S]
  exact wpAny_mkStr h (by rw [S_len, List.length_take, List.length_drop, sizeLine_eq]; lia)
theorem sub_loop {pat D : Addr} {code : Array Nat} {txt rp : List Nat} {t u : Tok} {F : Nat → Option (Nat × Nat)} {K : Nat} (hK : K < 2 ^ 60) (hlen : txt.length ≤ 100000) {h₀ : Heap} (hD : h₀.get? D = none) (hpat : Pat h₀ pat code)
    (hs : ∀ p must, p ≤ txt.length → Ends (Sre.forSearch code txt.toArray 0 p txt.toArray.size must) K fun m => match F p with | some (j, e) => Found j e m | none => Lost m)
    (hF : ∀ p j e, F p = some (j, e) → p ≤ j ∧ j < e ∧ e ≤ txt.length) :
    ∀ (f p : Nat) (must : Bool) (n : Int) (acc : List (List Nat)) (l : List (Str × Tok)) (k : Nat) (A : Around) (R : Result → Shared → Prop) (s : Shared), p ≤ txt.length → txt.length - p < f → (∀ b o, h₀.get? b = some o → s.heap.get? b = some o) → s.heap.get? D = some (lobj (strValues l) k) → l.map (·.1) = acc.map S →
      ((acc ++ subP F txt rp f p).map (·.length)).sum + (acc ++ subP F txt rp f p).length ≤ 1048576 →
      (∀ h' tk t', (∀ b o, h₀.get? b = some o → h'.get? b = some o) → R (.ok (.ret (.str (S (acc ++ subP F txt rp f p).flatten) t'))) { s with heap := h', toks := tk }) →
      wpAny (model prog w) A.in1 (Builtin.«re.Pattern.sub.loop» ⟨[.ref pat, .str (S txt) t, .str (S rp) u, rawInt 0, rawInt 0, rawInt n, rawInt p, rawInt p, .bool must, .ref D, .bool false], []⟩)
        (fun fin s' => match fin with | .done f => R (.ok f) s' | .again c' => c'.quiet = true ∧ codeAny (model prog w) A c' R s') (fun e s' => R (.error e) s') s := by
  intro f
  induction f with
  | zero => intro p must n acc l k A R s hp hf; lia
  | succ f ih =>
    intro p must n acc l k A R s hp hf hk hg hl hw hR
    unfold Builtin.«re.Pattern.sub.loop»
    refine wpAny_bind (wp_target (hpat.keeps hk) ?_)
    dsimp only
    rw [if_pos (show ((0 : Int) == 0) = true from rfl)]
    unfold reLiteralCannotBeTurned
    refine wpAny_bind (wpAny_bind (m := asStr? (.str (S rp) u)) (wpAny_pure (wpAny_pure ?_)))
    rw [if_neg (show ¬ ((0 : Int) != 0 && decide (n ≥ 0)) = true from by simp)]
    unfold reNextFound
    dsimp only
    rw [Int.toNat_natCast]
    refine wpAny_bind (wp_end (hs p must hp) hK fun m hm => ?_)
    have hsub : subP F txt rp (f + 1) p = match F p with
        | none => if p < txt.length then [txt.drop p] else []
        | some (j, e) => (if p < j then [(txt.drop p).take (j - p)] else []) ++ [rp] ++ subP F txt rp f e := rfl
    cases hFp : F p with
    | none =>
      rw [hFp] at hm hsub
      refine .inr ⟨hm, ?_⟩
      rw [hsub] at hw hR
      have fin : ∀ (l2 : List (Str × Tok)) (acc2 : List (List Nat)) (k2 : Nat) (s2 : Shared), (∃ h' tk, s2 = { s with heap := h', toks := tk }) → (∀ b o, h₀.get? b = some o → s2.heap.get? b = some o) → s2.heap.get? D = some (lobj (strValues l2) k2) → l2.map (·.1) = acc2.map S →
          (acc2.map (·.length)).sum + acc2.length ≤ 1048576 → (∀ h' tk' t', (∀ b o, h₀.get? b = some o → h'.get? b = some o) → R (.ok (.ret (.str (S acc2.flatten) t'))) { s with heap := h', toks := tk' }) →
          wpAny (model prog w) A.in1 (do
            let joiner ← reSlice txt.toArray 0 0 0
            let its ← seqItems? (.ref D)
            if ((its.getD #[]).isEmpty = true) then (do let text ← pure joiner; if false = true then (do let v ← holding [text] (do newTuple [text, ← mkInt n]); ret v) else ret text)
            else (do let text ← call (.builtin (if (0 == 0) = true then "str.join" else "bytes.join")) [joiner, .ref D]; if false = true then (do let v ← holding [text] (do newTuple [text, ← mkInt n]); ret v) else ret text))
            (fun fin s' => match fin with | .done f => R (.ok f) s' | .again c' => c'.quiet = true ∧ codeAny (model prog w) A c' R s') (fun e s' => R (.error e) s') s2 := by
        rintro l2 acc2 k2 s2 ⟨h', tk, rfl⟩ hk2 hg2 hl2 hw2 hR2
        refine wpAny_bind (wp_slice hlen ?_)
        refine wpAny_bind (wpAny_seqItems hg2 rfl ?_)
        show wpAny _ _ (if ((strValues l2).toArray.isEmpty = true) then _ else _) _ _ _
        by_cases he : (strValues l2).toArray.isEmpty = true
        · rw [if_pos he]
          have hl0 : l2 = [] := by
            cases l2 with
            | nil => rfl
            | cons a b => simp [strValues] at he
          subst hl0
          have ha : acc2 = [] := by
            cases acc2 with
            | nil => rfl
            | cons a b => simp at hl2
          subst ha
          exact wpAny_bind (wpAny_pure (wpAny_pure (hR2 h' _ _ hk2)))
        · rw [if_neg he]
          refine wpAny_bind (SC.join (texts := acc2.map S) (isL hg2) hl2 (joinOk_of_weight (by
            rw [List.map_map, List.length_map]
            have : (Str.length ∘ S) = fun l : List Nat => l.length := by funext l; exact S_len l
            rw [this]; exact hw2) (by show (S []).length ≤ 16; decide)) fun t' k' => ?_)
          refine wpAny_pure ?_
          have e1 : Txt.join (S ((txt.drop 0).take (0 - 0))) (acc2.map S) = S acc2.flatten := join_S acc2
          rw [e1]
          exact hR2 h' _ _ hk2
      show wpAny _ _ (if p < txt.toArray.size then _ else _) _ _ _
      have hsz : txt.toArray.size = txt.length := by simp
      rw [hsz]
      have hl1 : l.length ≤ 1048576 := by
        have : l.length = acc.length := by have := congrArg List.length hl; simpa using this
        rw [List.length_append] at hw
        lia
      by_cases hp2 : p < txt.length
      · rw [if_pos hp2] at hw hR ⊢
        refine wpAny_bind (wp_slice hlen ?_)
        refine wpAny_bind (wp_push (s := { s with toks := s.toks + 1 }) hD hk hg (by lia) fun h' k' hk' hg' => ?_)
        have e1 : (txt.drop p).take (txt.length - p) = txt.drop p := List.take_of_length_le (by rw [List.length_drop]; exact Nat.le_refl _)
        rw [e1] at hg'
        exact fin _ (acc ++ [txt.drop p]) k' _ ⟨h', s.toks + 1, rfl⟩ hk' hg' (by rw [List.map_append, List.map_append, hl]; rfl) hw hR
      · rw [if_neg hp2] at hw hR ⊢
        rw [List.append_nil] at hw hR
        exact fin l acc k s ⟨s.heap, s.toks, rfl⟩ hk hg hl hw hR
    | some je =>
      obtain ⟨j, e⟩ := je
      rw [hFp] at hm hsub
      obtain ⟨q1, q2, q3⟩ := hF p j e hFp
      refine .inl ⟨hm.1, ?_⟩
      rw [hsub] at hw hR
      obtain ⟨_, hst, hhd⟩ := hm
      have cont : ∀ (l2 : List (Str × Tok)) (acc2 : List (List Nat)) (k2 : Nat) (s2 : Shared), (∃ h' tk, s2 = { s with heap := h', toks := tk }) → (∀ b o, h₀.get? b = some o → s2.heap.get? b = some o) → s2.heap.get? D = some (lobj (strValues l2) k2) → l2.map (·.1) = acc2.map S →
          acc2 ++ [rp] ++ subP F txt rp f e = acc ++ ((if p < j then [(txt.drop p).take (j - p)] else []) ++ [rp] ++ subP F txt rp f e) →
          wpAny (model prog w) A.in1 (do
            updateSeq D fun x => x.push (.str (S rp) u)
            again (.builtin "re.Pattern.sub.loop" ⟨[.ref pat, .str (S txt) t, .str (S rp) u, rawInt 0, rawInt 0, rawInt (n + 1), rawInt ((m.handed : Nat) : Int), rawInt ((m.handed : Nat) : Int), .bool (m.handed == m.start), .ref D, .bool false], []⟩))
            (fun fin s' => match fin with | .done f => R (.ok f) s' | .again c' => c'.quiet = true ∧ codeAny (model prog w) A c' R s') (fun e s' => R (.error e) s') s2 := by
        rintro l2 acc2 k2 s2 ⟨h', tk, rfl⟩ hk2 hg2 hl2 he
        have hl1 : l2.length ≤ 1048576 := by
          have h1 : l2.length = acc2.length := by have := congrArg List.length hl2; simpa using this
          rw [← he] at hw
          simp only [List.length_append] at hw
          lia
        refine wpAny_bind (wp_push hD hk2 hg2 (by lia) fun h'' k' hk' hg' => ?_)
        refine wpAny_pure ⟨plainId_quiet plain_subloop _, codeAny_builtin entry_subloop ?_⟩
        rw [Around.under_plainId plain_subloop _, hhd]
        refine ih e _ (n + 1) (acc2 ++ [rp]) _ k' A R _ q3 (by lia) hk' hg' (by rw [List.map_append, List.map_append, hl2]; rfl) (by rw [he]; exact hw) fun h3 tk3 t3 hk3 => ?_
        rw [he]
        exact hR h3 tk3 t3 hk3
      show wpAny _ _ (if p < m.start then _ else _) _ _ _
      rw [hst] at cont ⊢
      by_cases hpj : p < j
      · rw [if_pos hpj] at cont ⊢
        refine wpAny_bind (wp_slice hlen ?_)
        have hl1 : l.length ≤ 1048576 := by
          have : l.length = acc.length := by have := congrArg List.length hl; simpa using this
          rw [List.length_append] at hw
          lia
        refine wpAny_bind (wp_push (s := { s with toks := s.toks + 1 }) hD hk hg (by lia) fun h' k' hk' hg' => ?_)
        exact cont _ (acc ++ [(txt.drop p).take (j - p)]) k' _ ⟨h', s.toks + 1, rfl⟩ hk' hg' (by rw [List.map_append, List.map_append, hl]; rfl) (by simp)
      · rw [if_neg hpj] at cont ⊢
        exact cont l acc k s ⟨s.heap, s.toks, rfl⟩ hk hg hl (by simp)
end
end
section
open PySem.Builtin PySem.Builtin.Re
section
variable {prog : Program} {w : World}
theorem named_sub (a b : Value) : reNamed "re.Pattern.sub" "sub" ["repl", "string", "count"] 2 [a, b] [] = pure [some a, some b, none] := rfl
theorem str_nocall : typeLookup (.type "str") "__call__" = pure none := by rw [typeLookup_type, builtinLookup_eq_fast]; kernel_rfl
theorem sub_meets {pat : Addr} {code : Array Nat} {txt rp : List Nat} {t u : Tok} {F : Nat → Option (Nat × Nat)} {K : Nat} (hK : K < 2 ^ 60) (hlen : txt.length ≤ 100000) (hrp : rp.contains 92 = false)
    (hs : ∀ p must, p ≤ txt.length → Ends (Sre.forSearch code txt.toArray 0 p txt.toArray.size must) K fun m => match F p with | some (j, e) => Found j e m | none => Lost m)
    (hF : ∀ p j e, F p = some (j, e) → p ≤ j ∧ j < e ∧ e ≤ txt.length) (hw : ((subP F txt rp (txt.length + 1) 0).map (·.length)).sum + (subP F txt rp (txt.length + 1) 0).length ≤ 1048576) :
    Meets (Builtin.«re.Pattern.sub» ⟨[.ref pat, .str (S rp) u, .str (S txt) t], []⟩) (fun _ R s => Pat s.heap pat code ∧
      ∀ h' tk t', (∀ b o, s.heap.get? b = some o → h'.get? b = some o) → R (.ok (.ret (.str (S (subP F txt rp (txt.length + 1) 0).flatten) t'))) { s with heap := h', toks := tk }) := by
  rintro prog w A R s ⟨hp, hR⟩
  show wpAny _ _ (reSubstitute "re.Pattern.sub" "sub" false ⟨[.ref pat, .str (S rp) u, .str (S txt) t], []⟩) _ _ _
  unfold reSubstitute
  dsimp only
  rw [named_sub]
  refine wpAny_bind (wpAny_pure ?_)
  dsimp only
  refine wpAny_bind (wpAny_pure ?_)
  refine wpAny_bind (wpAny_specialOf (typeIs_str _ _ _) str_nocall ?_)
  simp only [Option.isSome_none, Bool.false_eq_true, if_false]
  refine wpAny_bind (m := asStr? (.str (S rp) u)) (wpAny_pure ?_)
  refine wpAny_bind (wpAny_pure ?_)
  have hc : (!(S rp).cps.contains 92) = true := by
    have : (S rp).cps.contains 92 = rp.contains 92 := by simp [S]
    rw [this, hrp]; rfl
  rw [if_pos hc]
  refine wpAny_bind (wpAny_pure ?_)
  refine wpAny_bind (wpAny_holding (wp_target hp ?_))
  rw [if_neg (show ¬ (((0 : Int) == 1) = true) from by decide)]
  refine wpAny_bind (wpAny_newList ?_ (Nat.zero_le _))
  refine wpAny_pure ⟨plainId_quiet plain_subloop _, codeAny_builtin entry_subloop ?_⟩
  rw [Around.under_plainId plain_subloop _]
  refine sub_loop (D := s.heap.objs.size) (F := F) (code := code) hK hlen (h₀ := s.heap) (Heap.get?_none_of_le (Nat.le_refl _)) hp hs hF (txt.length + 1) 0 false 0 [] [] 0 A R _ (Nat.zero_le _) (by lia) (fun b o e => Heap.get?_push_of_some _ e) (Heap.get?_push_size _ rfl) rfl (by simpa using hw) fun h' tk' t' hk => ?_
  exact hR h' tk' t' hk
end
end
section
/-! what the two patterns make, in plain lists -/
section
variable {txt : List Nat}
theorem arr_get (txt : List Nat) (i : Nat) : txt.toArray.getD i 0 = txt.getD i 0 := by
  simp [Array.getD_eq_getD_getElem?, List.getD_eq_getElem?_getD]
noncomputable def lineB (txt : List Nat) (p : Nat) : Bool := p == 0 || txt.getD (p - 1) 0 == 10
theorem dotAt_eq (txt : List Nat) (p : Nat) : dotAt txt.toArray p = (lineB txt p && decide (p < txt.length) && txt.getD p 0 == 46) := by
  unfold dotAt lineB
  rw [arr_get, arr_get]
  simp
theorem findDot_some : ∀ {f s j : Nat}, findDot txt.toArray f s = some j → s ≤ j ∧ dotAt txt.toArray j = true ∧ ∀ i, s ≤ i → i < j → dotAt txt.toArray i = false := by
  intro f
  induction f with
  | zero =>
    intro s j h
    cases h
  | succ f ih =>
    intro s j h
    unfold findDot at h
    by_cases hc : dotAt txt.toArray s = true
    · rw [if_pos hc] at h; cases h; exact ⟨Nat.le_refl _, hc, fun i h1 h2 => by omega⟩
    · rw [if_neg hc] at h
      obtain ⟨a, b, c⟩ := ih h
      refine ⟨by omega, b, fun i h1 h2 => ?_⟩
      by_cases q : i = s
      · subst q; simpa using hc
      · exact c i (by omega) h2
theorem findDot_none : ∀ {f s : Nat}, findDot txt.toArray f s = none → ∀ i, s ≤ i → i < s + f → dotAt txt.toArray i = false := by
  intro f
  induction f with
  | zero =>
    intro s h i h1 h2
    omega
  | succ f ih =>
    intro s h i h1 h2
    unfold findDot at h
    by_cases hc : dotAt txt.toArray s = true
    · rw [if_pos hc] at h; cases h
    · rw [if_neg hc] at h
      by_cases q : i = s
      · subst q; simpa using hc
      · exact ih h i (by omega) (by omega)
theorem dotted_cons (b : Bool) (x : Nat) (r : List Nat) : dotted b (x :: r) = if b = true ∧ x = 46 then 46 :: 46 :: dotted false r else x :: dotted (x == 10) r := rfl
theorem crlf_cons (p : Bool) (x : Nat) (r : List Nat) : crlf p (x :: r) = if x = 13 then 13 :: 10 :: crlf true r else if x = 10 then (if p = true then crlf false r else 13 :: 10 :: crlf false r) else x :: crlf false r := rfl
theorem drop_get {p : Nat} (hp : p < txt.length) : txt.drop p = txt.getD p 0 :: txt.drop (p + 1) := by
  rw [List.drop_eq_getElem_cons hp, List.getD_eq_getElem?_getD, List.getElem?_eq_getElem hp]; rfl
theorem take_cons_drop {p q : Nat} (hp : p < q) (hq : p < txt.length) : (txt.drop p).take (q - p) = txt.getD p 0 :: (txt.drop (p + 1)).take (q - (p + 1)) := by
  rw [drop_get hq, show q - p = (q - (p + 1)) + 1 by omega, List.take_succ_cons]
theorem dotted_skip : ∀ (d p q : Nat), q = p + d → q ≤ txt.length → (∀ i, p ≤ i → i < q → dotAt txt.toArray i = false) → dotted (lineB txt p) (txt.drop p) = (txt.drop p).take (q - p) ++ dotted (lineB txt q) (txt.drop q) := by
  intro d
  induction d with
  | zero =>
    intro p q hq hl h
    have e : q = p := hq
    subst e
    rw [Nat.sub_self, List.take_zero, List.nil_append]
  | succ d ih =>
    intro p q hq hl h
    have hp : p < txt.length := by omega
    have h1 := h p (Nat.le_refl _) (by omega)
    rw [take_cons_drop (by omega) hp, drop_get hp, dotted_cons]
    rw [dotAt_eq, decide_eq_true hp, Bool.and_true] at h1
    rw [if_neg (by
      rintro ⟨a, b⟩
      rw [a, b] at h1; cases h1)]
    have e : (txt.getD p 0 == 10) = lineB txt (p + 1) := by unfold lineB; simp
    rw [e, ih (p + 1) q (by omega) hl fun i h1 h2 => h i (by omega) h2]
    rfl
noncomputable abbrev F1 (txt : List Nat) (p : Nat) : Option (Nat × Nat) := (findDot txt.toArray (txt.toArray.size - p) p).map fun j => (j, j + 1)
theorem sub1 : ∀ (f p : Nat), p ≤ txt.length → txt.length - p < f → (subP (F1 txt) txt [46, 46] f p).flatten = dotted (lineB txt p) (txt.drop p) := by
  intro f
  induction f with
  | zero =>
    intro p hp hf
    omega
  | succ f ih =>
    intro p hp hf
    unfold subP F1
    have hsz : txt.toArray.size = txt.length := by simp
    cases hd : findDot txt.toArray (txt.toArray.size - p) p with
    | none =>
      have h := findDot_none hd
      rw [hsz] at h
      rw [dotted_skip (txt.length - p) p txt.length (by omega) (Nat.le_refl _) fun i h1 h2 => h i h1 (by omega)]
      rw [List.take_of_length_le (by rw [List.length_drop]; exact Nat.le_refl _), List.drop_length]
      show (if p < txt.length then [txt.drop p] else []).flatten = txt.drop p ++ dotted _ []
      rw [show dotted (lineB txt txt.length) [] = [] from rfl, List.append_nil]
      by_cases q : p < txt.length
      · rw [if_pos q]; simp
      · rw [if_neg q, List.drop_eq_nil_of_le (by omega)]; rfl
    | some j =>
      obtain ⟨h1, h2, h3⟩ := findDot_some hd
      rw [dotAt_eq, Bool.and_eq_true, Bool.and_eq_true, decide_eq_true_eq, beq_iff_eq] at h2
      obtain ⟨⟨a, b⟩, c⟩ := h2
      show ((if p < j then [(txt.drop p).take (j - p)] else []) ++ [[46, 46]] ++ subP (F1 txt) txt [46, 46] f (j + 1)).flatten = _
      rw [List.flatten_append, List.flatten_append, ih (j + 1) (by omega) (by omega), dotted_skip (j - p) p j (by omega) (by omega) h3]
      have e1 : (if p < j then [(txt.drop p).take (j - p)] else []).flatten = (txt.drop p).take (j - p) := by
        by_cases q : p < j
        · rw [if_pos q]; simp
        · rw [if_neg q, show j - p = 0 by omega]; rfl
      have e2 : dotted (lineB txt j) (txt.drop j) = 46 :: 46 :: dotted (lineB txt (j + 1)) (txt.drop (j + 1)) := by
        rw [drop_get b, c, dotted_cons, if_pos ⟨a, rfl⟩]
        have : lineB txt (j + 1) = false := by
          unfold lineB
          rw [Nat.add_sub_cancel, c]; rfl
        rw [this]
      rw [e1, e2]
      simp
theorem findEnd_none : ∀ {f s : Nat}, findEnd txt.toArray f s = none → ∀ i, s ≤ i → i < s + f → txt.getD i 0 ≠ 10 ∧ txt.getD i 0 ≠ 13 := by
  intro f
  induction f with
  | zero =>
    intro s h i h1 h2
    omega
  | succ f ih =>
    intro s h i h1 h2
    unfold findEnd at h
    by_cases hc : txt.toArray.getD s 0 = 10 ∨ txt.toArray.getD s 0 = 13
    · rw [if_pos hc] at h; cases h
    · rw [if_neg hc] at h
      by_cases q : i = s
      · subst q; rw [arr_get] at hc; exact ⟨fun e => hc (.inl e), fun e => hc (.inr e)⟩
      · exact ih h i (by omega) (by omega)
theorem findEnd_skip : ∀ {f s j : Nat}, findEnd txt.toArray f s = some j → ∀ i, s ≤ i → i < j → txt.getD i 0 ≠ 10 ∧ txt.getD i 0 ≠ 13 := by
  intro f
  induction f with
  | zero =>
    intro s j h i h1 h2
    cases h
  | succ f ih =>
    intro s j h i h1 h2
    unfold findEnd at h
    by_cases hc : txt.toArray.getD s 0 = 10 ∨ txt.toArray.getD s 0 = 13
    · rw [if_pos hc] at h; cases h; omega
    · rw [if_neg hc] at h
      by_cases q : i = s
      · subst q; rw [arr_get] at hc; exact ⟨fun e => hc (.inl e), fun e => hc (.inr e)⟩
      · exact ih h i (by omega) h2
theorem crlf_skip : ∀ (d p q : Nat), q = p + d → q ≤ txt.length → (∀ i, p ≤ i → i < q → txt.getD i 0 ≠ 10 ∧ txt.getD i 0 ≠ 13) → crlf false (txt.drop p) = (txt.drop p).take (q - p) ++ crlf false (txt.drop q) := by
  intro d
  induction d with
  | zero =>
    intro p q hq hl h
    have e : q = p := hq
    subst e
    rw [Nat.sub_self, List.take_zero, List.nil_append]
  | succ d ih =>
    intro p q hq hl h
    have hp : p < txt.length := by omega
    obtain ⟨h1, h2⟩ := h p (Nat.le_refl _) (by omega)
    rw [take_cons_drop (by omega) hp, drop_get hp, crlf_cons]
    rw [if_neg h2, if_neg h1, ih (p + 1) q (by omega) hl fun i h1 h2 => h i (by omega) h2]
    rfl
theorem crlf_trueU {p : Nat} (h : ¬ (p < txt.length ∧ txt.getD p 0 = 10)) : crlf true (txt.drop p) = crlf false (txt.drop p) := by
  by_cases hp : p < txt.length
  · have h1 : txt.getD p 0 ≠ 10 := fun e => h ⟨hp, e⟩
    rw [drop_get hp, crlf_cons, crlf_cons]
    by_cases h2 : txt.getD p 0 = 13
    · rw [if_pos h2, if_pos h2]
    · rw [if_neg h2, if_neg h2, if_neg h1, if_neg h1]
  · rw [List.drop_eq_nil_of_le (by omega)]; rfl
noncomputable abbrev endE (txt : List Nat) (j : Nat) : Nat := if txt.toArray.getD j 0 = 13 ∧ j + 1 < txt.toArray.size ∧ txt.toArray.getD (j + 1) 0 = 10 then j + 2 else j + 1
noncomputable abbrev F2 (txt : List Nat) (p : Nat) : Option (Nat × Nat) := (findEnd txt.toArray (txt.toArray.size - p) p).map fun j => (j, endE txt j)
theorem endE_le {j : Nat} (h : j < txt.length) : j < endE txt j ∧ endE txt j ≤ txt.length := by
  unfold endE
  split
  · rename_i h1
    have : txt.toArray.size = txt.length := by simp
    omega
  · omega
theorem sub2 : ∀ (f p : Nat), p ≤ txt.length → txt.length - p < f → (subP (F2 txt) txt [13, 10] f p).flatten = crlf false (txt.drop p) := by
  intro f
  induction f with
  | zero =>
    intro p hp hf
    omega
  | succ f ih =>
    intro p hp hf
    unfold subP F2
    have hsz : txt.toArray.size = txt.length := by simp
    cases hd : findEnd txt.toArray (txt.toArray.size - p) p with
    | none =>
      have h := findEnd_none hd
      rw [hsz] at h
      rw [crlf_skip (txt.length - p) p txt.length (by omega) (Nat.le_refl _) fun i h1 h2 => h i h1 (by omega)]
      rw [List.take_of_length_le (by rw [List.length_drop]; exact Nat.le_refl _), List.drop_length]
      show (if p < txt.length then [txt.drop p] else []).flatten = txt.drop p ++ crlf false []
      rw [show crlf false [] = [] from rfl, List.append_nil]
      by_cases q : p < txt.length
      · rw [if_pos q]; simp
      · rw [if_neg q, List.drop_eq_nil_of_le (by omega)]; rfl
    | some j =>
      have h3 := findEnd_skip hd
      obtain ⟨b, h1, c⟩ := findEnd_some hd (by omega)
      rw [hsz] at b
      have he := endE_le b
      show ((if p < j then [(txt.drop p).take (j - p)] else []) ++ [[13, 10]] ++ subP (F2 txt) txt [13, 10] f (endE txt j)).flatten = _
      rw [List.flatten_append, List.flatten_append, ih (endE txt j) he.2 (by omega), crlf_skip (j - p) p j (by omega) (by omega) h3]
      have e1 : (if p < j then [(txt.drop p).take (j - p)] else []).flatten = (txt.drop p).take (j - p) := by
        by_cases q : p < j
        · rw [if_pos q]; simp
        · rw [if_neg q, show j - p = 0 by omega]; rfl
      have e2 : crlf false (txt.drop j) = 13 :: 10 :: crlf false (txt.drop (endE txt j)) := by
        rw [arr_get] at c
        rw [drop_get b, crlf_cons]
        by_cases h13 : txt.getD j 0 = 13
        · rw [if_pos h13]
          congr 2
          by_cases hn : j + 1 < txt.length ∧ txt.getD (j + 1) 0 = 10
          · have : endE txt j = j + 2 := if_pos ⟨by rw [arr_get]; exact h13, by rw [hsz]; exact hn.1, by rw [arr_get]; exact hn.2⟩
            rw [this, drop_get hn.1, hn.2, crlf_cons, if_neg (by decide), if_pos rfl, if_pos rfl]
          · have : endE txt j = j + 1 := if_neg (by rintro ⟨_, q1, q2⟩; rw [arr_get] at q2; rw [hsz] at q1; exact hn ⟨q1, q2⟩)
            rw [this, crlf_trueU hn]
        · have h10 : txt.getD j 0 = 10 := c.elim id fun e => absurd e h13
          have : endE txt j = j + 1 := if_neg (by rintro ⟨q1, _⟩; rw [arr_get] at q1; exact h13 q1)
          rw [if_neg h13, if_pos h10, this, if_neg (by decide)]
      rw [e1, e2]
      simp
theorem subP_count (F : Nat → Option (Nat × Nat)) (rp : List Nat) : ∀ (f p : Nat), (subP F txt rp f p).length ≤ 2 * f
  | 0, p => by simp [subP]
  | f + 1, p => by
    unfold subP
    cases F p with
    | none => simp only []; split <;> (simp; try omega)
    | some je =>
      obtain ⟨j, e⟩ := je
      have := subP_count F rp f e
      simp only [List.length_append, List.length_cons, List.length_nil]
      split <;> simp <;> omega
end
end
section
theorem ns_re1 (P : Params) : nsIn (K P) mainGlobals (.ofString "_twin_re_1") = some (some (.ref (nat_lit 36))) := by kernel_rfl
theorem ns_re2 (P : Params) : nsIn (K P) mainGlobals (.ofString "_twin_re_2") = some (some (.ref (nat_lit 41))) := by kernel_rfl
theorem ns_crlf (P : Params) : nsIn (K P) mainGlobals (.ofString "CRLF") = some (some (.str (.ofString "\r\n") 342)) := by kernel_rfl
theorem pat1 {P : Params} {h : Heap} (X : (K P).In h) : Pat h (nat_lit 36) code1 := ⟨⟨_, _, _, _, _, _, _, X (nat_lit 36) _ rfl, rfl, rfl, rfl, X (nat_lit 35) _ rfl, by
  apply Array.toList_inj.mp
  rw [Array.toList_map, Array.toList_map]
  rfl⟩⟩
theorem pat2 {P : Params} {h : Heap} (X : (K P).In h) : Pat h (nat_lit 41) code2 := ⟨⟨_, _, _, _, _, _, _, X (nat_lit 41) _ rfl, rfl, rfl, rfl, X (nat_lit 40) _ rfl, by
  apply Array.toList_inj.mp
  rw [Array.toList_map, Array.toList_map]
  rfl⟩⟩
section
variable {c : Cx} {env : Env} {z hid : List (Addr × Obj)} {σ : Sto} {x : Str} {e1 e2 : Expr} {pos p p' : Pos} {n : Nat} {Post : V → Sto → Prop} {s : Shared} {E : Value → Shared → Prop}
theorem EV.gstr {y : Str} {t : Nat} (ok : c.Ok n) (hf : nsIn (K c.w.params) mainGlobals x = some (some (.str y t))) (hx : env.kindOf x = some .globalImplicit) (h : Post (.str y) σ) (hd : (x == ("__debug__" : Str)) = false := by decide) :
    EV c env (.Name x p) σ Post := fun hid z s H E => by
  obtain ⟨_, ek⟩ := H.envOk
  exact Name_function_global ek.kind hx (loadGlobal_global (mg := c.mg) (ek.globals ▸ ok.top.g.keeps H.base) (mg_of ok.kin ok.top.g hf) ⟨z, .str y, σ, fun _ h => h, H, by unfold VR; exact ⟨t, rfl⟩, ⟨rfl, rfl, rfl⟩, h⟩) hd
/-- what sub gives of two texts -/
noncomputable def SubOk (c : Cx) (pat : Addr) (rp txt res : List Nat) : Prop :=
  ∀ (t u : Tok) (s : Shared) (E : Value → Shared → Prop) (Q : Value → Shared → Prop), (K c.w.params).In s.heap → (∀ h' tk t', (∀ b o, s.heap.get? b = some o → h'.get? b = some o) → Q (.str (S res) t') { s with heap := h', toks := tk }) →
    wpAny c.M c.A (call (.builtin "re.Pattern.sub") [.ref pat, .str (S rp) u, .str (S txt) t]) Q E s
theorem flat_sum (L : List (List Nat)) : (L.map (·.length)).sum = L.flatten.length := by rw [List.length_flatten]
theorem subOk1 (txt : List Nat) (h : txt.length ≤ 10000) : SubOk c (nat_lit 36) [46, 46] txt (dotted true txt) := fun t u s E Q X hq => by
  have hp := pat1 X
  have hT : s.TypeIs (.ref (nat_lit 36)) "re.Pattern" := ⟨_, X (nat_lit 36) _ rfl, rfl⟩
  have e : (subP (F1 txt) txt [46, 46] (txt.length + 1) 0).flatten = dotted true txt := sub1 (txt.length + 1) 0 (Nat.zero_le _) (by omega)
  refine call_meets slot_re_sub hT entry_sub (args_re_sub_3 _ _ _) (sub_meets (code := code1) (F := F1 txt) (K := 5 * (txt.toArray.size + 1)) (by simp; omega) (by omega) (by decide) (fun p must hp => ?_) (fun p j e hF => ?_) ?_) ⟨hp, fun h' tk t' hk => ?_⟩
  · refine (forSearch1 txt.toArray p (by simpa using hp) must).mono (Nat.le_refl _) fun m hm => ?_
    unfold F1
    cases hd : findDot txt.toArray (txt.toArray.size - p) p with
    | none => rw [hd] at hm; exact hm
    | some j => rw [hd] at hm; exact hm
  · unfold F1 at hF
    cases hd : findDot txt.toArray (txt.toArray.size - p) p with
    | none => rw [hd] at hF; cases hF
    | some i =>
      rw [hd] at hF
      cases hF
      obtain ⟨h1, h2, _⟩ := findDot_some hd
      rw [dotAt_eq, Bool.and_eq_true, Bool.and_eq_true, decide_eq_true_eq] at h2
      exact ⟨h1, Nat.lt_succ_self _, h2.1.2⟩
  · have h1 := subP_count (txt := txt) (F1 txt) [46, 46] (txt.length + 1) 0
    have h2 := dotted_len true txt
    rw [flat_sum, e]
    omega
  · show Q (.str (S (subP (F1 txt) txt [46, 46] (txt.length + 1) 0).flatten) t') _
    rw [e]
    exact hq h' tk t' hk
theorem subOk2 (txt : List Nat) (h : txt.length ≤ 10000) : SubOk c (nat_lit 41) [13, 10] txt (crlf false txt) := fun t u s E Q X hq => by
  have hp := pat2 X
  have hT : s.TypeIs (.ref (nat_lit 41)) "re.Pattern" := ⟨_, X (nat_lit 41) _ rfl, rfl⟩
  have e : (subP (F2 txt) txt [13, 10] (txt.length + 1) 0).flatten = crlf false txt := sub2 (txt.length + 1) 0 (Nat.zero_le _) (by omega)
  refine call_meets slot_re_sub hT entry_sub (args_re_sub_3 _ _ _) (sub_meets (code := code2) (F := F2 txt) (K := 21) (by decide) (by omega) (by decide) (fun p must hp => ?_) (fun p j e hF => ?_) ?_) ⟨hp, fun h' tk t' hk => ?_⟩
  · refine (forSearch2 txt.toArray p (by simpa using hp) must).mono (Nat.le_refl _) fun m hm => ?_
    unfold F2
    cases hd : findEnd txt.toArray (txt.toArray.size - p) p with
    | none => rw [hd] at hm; exact hm
    | some j => rw [hd] at hm; exact hm
  · unfold F2 at hF
    have hsz : txt.toArray.size = txt.length := by simp
    cases hd : findEnd txt.toArray (txt.toArray.size - p) p with
    | none => rw [hd] at hF; cases hF
    | some i =>
      rw [hd] at hF
      cases hF
      by_cases hpl : p ≤ txt.length
      · obtain ⟨h1, h2, _⟩ := findEnd_some hd (by omega)
        rw [hsz] at h1
        exact ⟨h2, endE_le h1⟩
      · exfalso
        rw [show txt.toArray.size - p = 0 by omega] at hd
        cases hd
  · have h1 := subP_count (txt := txt) (F2 txt) [13, 10] (txt.length + 1) 0
    have h2 := crlf_len false txt
    rw [flat_sum, e]
    omega
  · show Q (.str (S (subP (F2 txt) txt [13, 10] (txt.length + 1) 0).flatten) t') _
    rw [e]
    exact hq h' tk t' hk
theorem EV.sub {pat : Addr} (ok : c.Ok n) (hf : nsIn (K c.w.params) mainGlobals x = some (some (.ref pat))) (hx : env.kindOf x = some .globalImplicit) (hpat : ∀ h, (K c.w.params).In h → ∃ cl, h.get? pat = some cl ∧ cl.cls = .type "re.Pattern" ∧ cl.dict = none)
    (h : EVs c env [e1, e2] σ fun W σ₁ => ∃ rp txt res, W = [.str (S rp), .str (S txt)] ∧ SubOk c pat rp txt res ∧ Post (.str (S res)) σ₁) (hd : (x == ("__debug__" : Str)) = false := by decide)
    (hbase : attributeBase (.Name x p) (.ofString "sub") env (eval (.Name x p) env) = eval (.Name x p) env) (he : starEach [e1, e2] env = [(false, eval e1 env), (false, eval e2 env)]) (hline : (p'.endLine == pos.line) = true) :
    EV c env (.Call (.Attribute (.Name x p) (.ofString "sub") p') [e1, e2] [] pos) σ Post := fun hid z s H E => by
  obtain ⟨_, ek⟩ := H.envOk
  obtain ⟨ob, ho, hc, hdn⟩ := hpat _ (ok.kin.keeps H.base)
  refine wpAny_Call_method (T := "re.Pattern") (id := "re.Pattern.sub") hbase (by rw [he]; rfl) hline plainAttrs_re slot_re_sub type_re_sub (Name_function_global ek.kind hx (loadGlobal_global (mg := c.mg) (ek.globals ▸ ok.top.g.keeps H.base) (mg_of ok.kin ok.top.g hf) ⟨⟨ob, ho, hc⟩, fun a e => (by cases e; exact ⟨ob, ho, hdn⟩), ?_⟩) hd)
  have he2 : backTo pos (starEach [e1, e2] env) = (false, eval e1 env) :: (backTo pos (starEach [e1, e2] env)).tail := by rw [he]; rfl
  have hpl : (backTo pos (starEach [e1, e2] env)).any (·.1) = false := by rw [he]; rfl
  refine Calls.callWith_builtin hpl ?_
  rw [he2]
  refine Calls.evalArgs_plain ?_
  rw [← he2]
  refine h.go H fun z₁ W σ₁ vs s₁ hz H₁ hv sm hPat => ?_
  obtain ⟨rp, txt, res, e, hs, hP⟩ := hPat
  subst e
  unfold VRs at hv; obtain ⟨v1, r, rfl, h1, hv⟩ := hv
  unfold VRs at hv; obtain ⟨v2, r, rfl, h2, hv⟩ := hv
  unfold VRs at hv; subst hv
  unfold VR at h1 h2
  obtain ⟨u, rfl⟩ := h1
  obtain ⟨t, rfl⟩ := h2
  refine hs t u s₁ _ _ (ok.kin.keeps H₁.base) fun h' tk t' hk => ?_
  exact ⟨z₁, .str (S res), σ₁, hz, H₁.kept hk, by unfold VR; exact ⟨t', rfl⟩, sm, hP⟩
end
theorem quote_fn (l : List Nat) (hl : l.length ≤ 2000) : Fn (nat_lit 48) 20 [.str (S l)] (.str (S (quoteT l))) := by
  refine Fn.intro' (n := 19) (name := .ofString "quotedata") (qual := .ofString "quotedata") (params := a48) (body := b48) (scope := s48) (pm := .str (.ofString "cpy313.smtplib") 282) (cdv := .ref (nat_lit 47)) (ps := [.ofString "data"]) (fun _ => rfl) cd_quotedata (lens1 rfl fun v => rfl) rfl rfl (by decide) (by decide) rfl rfl rfl fun c C => ?_
  refine ST.cons (S1.ret (EV.sub C.ok (ns_re1 _) (C.kind rfl) (fun h X => ⟨_, X (nat_lit 36) _ rfl, rfl, rfl⟩) ?_ (by decide) rfl rfl rfl))
  refine EVs.cons (EV.str ?_) rfl
  refine EVs.cons (EV.sub C.ok (ns_re2 _) (C.kind rfl) (fun h X => ⟨_, X (nat_lit 41) _ rfl, rfl, rfl⟩) ?_ (by decide) rfl rfl rfl) rfl
  refine EVs.cons (EV.gstr C.ok (ns_crlf _) (C.kind rfl) ?_) rfl
  repeat walk_at "rr"
  have h1 := crlf_len false l
  refine ⟨[13, 10], l, _, rfl, subOk2 l (by omega), ?_⟩
  refine EVs.nil ⟨[46, 46], crlf false l, _, rfl, subOk1 (crlf false l) (by omega), ?_⟩
  rfl
end
section
noncomputable def tgtI (site heap : Int) (i : Nat) : Int := (site + 1 + (((heap.fdiv (10 ^ (i + 1))).fmod 10).fmod 4)).fmod 5
noncomputable def tgtN (heap : Int) : Nat := (1 + (heap.fmod 10).fmod 3).toNat
noncomputable def tgt (site heap : Int) : List Int := (List.range (tgtN heap)).map (tgtI site heap)
theorem targets_fn (site heap : Int) : Fn (nat_lit 151) 2 [.int site, .int heap] (.lst (ivs (tgt site heap))) := by
  refine Fn.intro' (n := 1) (name := .ofString "_law_targets") (qual := .ofString "_law_targets") (params := a151) (body := b151) (scope := s151) (pm := .str (.ofString "law_uc0003_01") 513) (cdv := .ref (nat_lit 150)) (ps := [.ofString "site", .ofString "heap"]) (fun _ => rfl) cd_law_targets (lensS rfl fun v => lens1 rfl fun u => rfl) rfl rfl (by decide) (by decide) rfl rfl rfl fun c C => ?_
  repeat walk_at "rr"
  refine EVO.toEV (EVO.comp C.pin (C.comp (by rfl)) ?_)
  have hm := fmod_lt (heap.fmod 10) (k := 3) (by decide)
  refine SrcV.range C.ok (ns_range _) (C.kind rfl) fun m => ?_
  repeat walk_at "rr"
  refine ⟨tgtN heap, ?_, ?_, fun i => .int (tgtI site heap i), fun m i CC hi => ?_, ?_⟩
  · unfold tgtN; rw [Int.toNat_of_nonneg (by omega)]
  · unfold tgtN; omega
  · unfold tgtN at hi
    repeat walk_at "rr"
    refine BinOk.powS (by omega) (by omega) (by decide) ?_
    refine BinOk.fdivS ?_ ?_ ?_
    · exact Int.pow_pos (by decide)
    · have : ((i : Int) + 1).toNat ≤ 3 := by omega
      calc (10 : Int) ^ ((i : Int) + 1).toNat ≤ 10 ^ 3 := by exact_mod_cast Nat.pow_le_pow_right (by decide) this
        _ < 2 ^ 63 := by decide
    repeat walk_at "rr"
    rfl
  · repeat walk_at "rr"
    simp [tgt, ivs]
end
section
noncomputable def firstsI : List Int := [2110101, 500030, 20101, 900231, 1310301, 4001, 305]
noncomputable def heapI (script : List Int) (i : Nat) : Int := (firstsI.getD i 0 + (slc script (some (i : Int)) none (some 7)).sum).fmod (10 ^ 12)
theorem slc_ivs (xs : List Int) (a b d : Option Int) : slc (ivs xs) a b d = ivs (slc xs a b d) := slc_map V.int xs a b d
theorem heaps_fn (script : List Int) (hs : script.length ≤ 63) : Fn (nat_lit 120) 2 [.lst (ivs script)] (.lst (ivs ((List.range 7).map (heapI script)))) := by
  refine Fn.intro' (n := 1) (name := .ofString "_law_heaps") (qual := .ofString "_law_heaps") (params := a120) (body := b120) (scope := s120) (pm := .str (.ofString "law_uc0003_01") 513) (cdv := .ref (nat_lit 119)) (ps := [.ofString "script"]) (fun _ => rfl) cd_law_heaps (lens1 rfl fun v => rfl) rfl rfl (by decide) (by decide) rfl rfl rfl fun c C => ?_
  repeat walk_at "rr"
  refine ⟨Nat.le_of_ble_eq_true rfl, fun b => ?_⟩
  repeat walk_at "rr"
  refine EVO.toEV (EVO.comp C.pin (C.comp (by rfl)) ?_)
  refine SrcV.range C.ok (ns_range _) (C.kind rfl) fun m => ?_
  repeat walk_at "rr"
  refine ⟨7, rfl, by decide, fun i => .int (heapI script i), fun m i CC hi => ?_, ?_⟩
  · repeat walk_at "rr"
    refine ⟨_, _, rfl, rfl, by decide, nth_ivs (xs := firstsI) (by lia) (by show _ < (7 : Int); lia), ?_⟩
    repeat walk_at "rr"
    refine ⟨_, rfl, ?_⟩
    repeat walk_at "rr"
    refine ⟨_, rfl, rfl, ?_, by decide, ?_⟩
    · rw [List.length_map, sizeLine_eq]; lia
    repeat walk_at "rr"
    rw [slc_ivs]
    refine CallOk.sum ?_
    repeat walk_at "rr"
    refine BinOk.powS (by decide) (by decide) (by decide) ?_
    refine BinOk.mod (by decide) ?_
    simp [heapI]
  · repeat walk_at "rr"
    simp [ivs]
end
section
noncomputable abbrev svl (xs : List (List Nat)) : List V := xs.map fun l => .str (S l)
theorem book_fn (letters : List Nat) (targets : List Int) (heap site : Int) (hl : letters.length = 5) (ht : ∀ t ∈ targets, 0 ≤ t ∧ t < 5) (hn : targets.length ≤ 10) :
    Fn (nat_lit 156) 4 [.lst (letters.map fun l => .str (S [l])), .lst (ivs targets), .int heap, .int site] (.str (S (bookT letters targets heap site))) := by
  refine Fn.intro' (n := 3) (name := .ofString "_law_book") (qual := .ofString "_law_book") (params := a156) (body := b156) (scope := s156) (pm := .str (.ofString "law_uc0003_01") 513) (cdv := .ref (nat_lit 155)) (ps := [.ofString "letters", .ofString "targets", .ofString "heap", .ofString "site"]) (fun _ => rfl) cd_law_book (lensS rfl fun v => lensS rfl fun u => lensS rfl fun w => lens1 rfl fun x => rfl) rfl rfl (by decide) (by decide) rfl rfl rfl fun c C => ?_
  have hg := fmod_lt ((heap.fdiv (10 ^ 4)).fmod 10) (k := targets.length + 1) (by omega)
  walk_at "rr"
  refine S1.assignComp (C.loc rfl) (C.kind rfl) (C.comp (by rfl)) ?_ (C.swap fun _ _ _ _ _ => rfl)
  refine SrcV.list fun m => ?_
  repeat walk_at "rr"
  refine ⟨_, rfl, ?_, fun i => .str (S [letters.getD (targets.getD i 0).toNat 0]), fun m i CC hi => ?_, fun b => ?_⟩
  · rw [List.length_map, sizeLine_eq]; omega
  · have hi' : i < targets.length := by simpa using hi
    repeat walk_at "rr"
    have h5 := getD_all ht hi' 0
    refine ⟨_, _, ivs_getD hi', rfl, ?_, nth_map (fun l => V.str (S [l])) 0 h5.1 (by rw [hl]; exact h5.2), rfl⟩
    rw [List.length_map, hl]; decide
  · have e1 : (List.range (ivs targets).length).map (fun i => V.str (S [letters.getD (targets.getD i 0).toNat 0])) = svl (bookSigns letters targets) := by
      unfold svl bookSigns
      rw [List.map_map]
      apply List.ext_getElem
      · simp
      · intro i h1 h2; simp at h1; simp [List.getD_eq_getElem?_getD, h1]
    rw [e1]
    have hlen : (bookSigns letters targets).length = targets.length := by simp [bookSigns]
    repeat walk_at "rr"
    refine BinOk.powS (by decide) (by decide) (by decide) ?_
    refine BinOk.fdivS (by decide) (by decide) ?_
    repeat walk_at "rr"
    refine CallOk.lenList (by rw [List.length_map]; omega) ?_
    repeat walk_at "rr"
    rw [List.length_map]
    refine BinOk.mod (by omega) ?_
    repeat walk_at "rr"
    have e2 : ((heap.fdiv (10 ^ (4 : Int).toNat)).fmod 10).fmod ((targets.length : Int) + 1) = (bookGap targets heap : Int) := by
      unfold bookGap; rw [Int.toNat_of_nonneg hg.1]; rfl
    rw [e2]
    refine ⟨_, rfl, ?_⟩
    repeat walk_at "rr"
    refine ⟨rfl, ?_, by decide, ?_⟩
    · rw [List.length_map, hlen, sizeLine_eq]; omega
    rw [slc_to]
    refine EVO.toEV ?_
    repeat walk_at "rr"
    refine BinOk.powS (by decide) (by decide) (by decide) ?_
    refine BinOk.fdivS (by decide) (by decide) ?_
    repeat walk_at "rr"
    refine Fn.callOk (hidden_fn _) (C.ok.le (by decide)) ?_
    repeat walk_at "rr"
    refine ⟨Nat.le_of_ble_eq_true rfl, ?_⟩
    repeat walk_at "rr"
    refine ⟨_, rfl, ?_⟩
    repeat walk_at "rr"
    refine ⟨rfl, ?_, by decide, ?_⟩
    · rw [List.length_map, hlen, sizeLine_eq]; omega
    rw [slc_from]
    repeat walk_at "rr"
    refine ⟨(bookSigns letters targets).take (bookGap targets heap) ++ [[(hidI (heap.fdiv (10 ^ 5) + site)).toNat]] ++ (bookSigns letters targets).drop (bookGap targets heap), ?_, ?_, ?_⟩
    · simp only [List.map_append, List.map_take, List.map_drop]; rfl
    · have : ∀ (l : List (List Nat)), (∀ x ∈ l, x.length = 1) → (l.map (·.length)).sum = l.length := by
        intro l h
        induction l with
        | nil => rfl
        | cons x r ih => simp [h x (.head _), ih fun y hy => h y (.tail _ hy)]; omega
      rw [this]
      · simp only [List.length_append, List.length_take, List.length_drop, hlen, List.length_cons, List.length_nil]; omega
      · intro x hx
        have : x ∈ bookSigns letters targets ∨ x = [(hidI (heap.fdiv (10 ^ 5) + site)).toNat] := by
          simp only [List.mem_append, List.mem_singleton] at hx
          rcases hx with (h | h) | h
          · exact .inl (List.mem_of_mem_take h)
          · exact .inr h
          · exact .inl (List.mem_of_mem_drop h)
        rcases this with h | rfl
        · obtain ⟨t, _, rfl⟩ := List.mem_map.mp h; rfl
        · rfl
    · repeat walk_at "rr"
      rfl
    all_goals (simp only [List.length_map, List.length_append, List.length_take, List.length_drop, hlen, List.length_cons, List.length_nil]; omega)
end
section
noncomputable abbrev nls (xss : List (List Nat)) : List V := xss.map fun w => .lst (ivs (ns w))
theorem rings_fn (leads : List Nat) (hl : leads.length = 5) (h5 : ∀ x ∈ leads, x ≤ 5) : Fn (nat_lit 177) 2 [.lst (ivs (ns leads))] (.lst (nls (rings leads))) := by
  refine Fn.intro' (n := 1) (name := .ofString "_law_rings") (qual := .ofString "_law_rings") (params := a177) (body := b177) (scope := s177) (pm := .str (.ofString "law_uc0003_01") 513) (cdv := .ref (nat_lit 176)) (ps := [.ofString "leads"]) (fun _ => rfl) cd_law_rings (lens1 rfl fun v => rfl) rfl rfl (by decide) (by decide) rfl rfl rfl fun c C => ?_
  repeat walk_at "rr"
  refine ⟨Nat.le_of_ble_eq_true rfl, fun b => ?_⟩
  repeat walk_at "rr"
  refine S1.forRangeC C.ok (C.kind rfl) (C.loc rfl) ?_ rfl (fun _ => rfl)
  repeat walk_at "rr"
  refine ⟨5, fun i τ => ∃ b, τ = [(.ofString "leads", .frz (.lst (ivs (ns leads)))), (.ofString "rings", .own b (nls (ringsTo leads i)))], rfl, by decide, ⟨_, ⟨b, rfl⟩, Le.cons rfl (Le.cons rfl (Le.nil _))⟩, ?_, ?_⟩
  · rintro i τ hi ⟨b, rfl⟩
    repeat walk_at "rr"
    refine ⟨Nat.le_of_ble_eq_true rfl, fun b2 => ?_⟩
    repeat walk_at "rr"
    refine S1.whileC 4 (fun k τ => ∃ w, τ = [(.ofString "leads", .frz (.lst (ivs (ns leads)))), (.ofString "rings", .own b (nls (ringsTo leads i))), (.ofString "first", .frz (.int i)), (.ofString "way", .own b2 (ivs (ns w)))] ∧ WayOk w ∧ k + w.length = 5 ∧ follow leads k w = ringOf leads i) ?_ ?_
    · refine ⟨_, ⟨[i], rfl, ⟨by simp, by simp, by simpa using hi⟩, rfl, rfl⟩, Le.cons rfl (Le.cons rfl (Le.cons rfl (Le.cons rfl (Le.nil _))))⟩
    · rintro k τ ⟨w, rfl, ok, hk, hf⟩
      have hlast := ok.last
      have hw5 : w.length ≤ 5 := nodup_len 5 w ok.nd ok.lt
      have hv := getD_all h5 (show lastN w < leads.length by lia) 0
      repeat walk_at "rr"
      refine ⟨_, _, rfl, rfl, by simp; lia, nth_last ok.ne, _, _, rfl, rfl, by simp; lia, nth_ns rfl (by lia), ?_⟩
      repeat walk_at "rr"
      refine ifQ (fun q1 => ?_) (fun q1 => ?stop1)
      repeat walk_at "rr"
      refine ⟨_, _, rfl, rfl, by simp; lia, nth_last ok.ne, _, _, rfl, rfl, by simp; lia, nth_ns rfl (by lia), _, ns w, rfl, .own rfl, ?_⟩
      rw [any_ns]
      refine ifQ (fun q2 => ?_) (fun q2 => ?stop2)
      · repeat walk_at "rr"
        repeat walk_at "rr"
        refine ⟨_, _, rfl, rfl, by simp; lia, nth_last ok.ne, _, _, rfl, rfl, by simp; lia, nth_ns rfl (by lia), _, _, rfl, rfl, by simp [sizeLine_eq]; lia, ?_⟩
        repeat walk_at "rr"
        have c1 : leads.getD (lastN w) 0 ≠ 5 ∧ leads.getD (lastN w) 0 ∉ w := ⟨fun e => by rw [e] at q1; exact absurd q1 (by decide), by simpa using q2⟩
        have ok' : WayOk (w ++ [leads.getD (lastN w) 0]) := ⟨by simp, by
          rw [List.nodup_append]
          exact ⟨ok.nd, by simp, fun a ha b hb e => c1.2 (by rw [List.mem_singleton] at hb; rw [← hb, ← e]; exact ha)⟩, fun x hx => by
          rcases List.mem_append.mp hx with h | h
          · exact ok.lt x h
          · rw [List.mem_singleton] at h; lia⟩
        have l' := nodup_len 5 _ ok'.nd ok'.lt
        rw [List.length_append, List.length_singleton] at l'
        obtain ⟨k', rfl⟩ : ∃ k', k = k' + 1 := ⟨k - 1, by lia⟩
        refine ⟨k', Nat.lt_succ_self _, _, ⟨_, rfl, ok', by rw [List.length_append, List.length_singleton]; lia, ?_⟩, ?_⟩
        · rw [← hf]
          show _ = if _ then _ else _
          rw [if_pos c1]
        · refine Le.cons rfl (Le.cons rfl (Le.cons rfl (Le.cons ?_ (Le.nil _))))
          simp [ns, ivs]
          rfl
      case' stop1 => have hs : ¬ (leads.getD (lastN w) 0 ≠ 5 ∧ leads.getD (lastN w) 0 ∉ w) := fun h => h.1 (by have := bne_eq_false_iff_eq.mp q1; lia)
      case' stop2 => have hs : ¬ (leads.getD (lastN w) 0 ≠ 5 ∧ leads.getD (lastN w) 0 ∉ w) := fun h => h.2 (by simpa using q2)
      all_goals (
        have hw : ringOf leads i = w := by rw [← hf, follow_stop hs]
        repeat walk_at "rr"
        refine ⟨_, _, rfl, rfl, by simp; lia, nth_last ok.ne, _, _, rfl, rfl, by simp; lia, nth_ns rfl (by lia), ?_⟩
        repeat walk_at "rr"
        refine ifQ (fun q3 => ?_) (fun q3 => ?_)
        · repeat walk_at "rr"
          refine EV.minN C.ok (.own rfl) (by have := List.length_pos_iff.mpr ok.ne; simpa using this) (C.kind rfl) fun M hM hmin => ?_
          repeat walk_at "rr"
          obtain ⟨M, hM', rfl⟩ := List.mem_map.mp hM
          refine ifQ (fun q4 => ?_) (fun q4 => ?_)
          · have hr : isRing leads i = true := by
              unfold isRing; rw [hw]
              have q3' := beq_iff_eq.mp q3
              have q4' := beq_iff_eq.mp q4
              simp only [Bool.and_eq_true, beq_iff_eq, List.all_eq_true, decide_eq_true_eq]
              refine ⟨by lia, fun x hx => ?_⟩
              have := hmin x (List.mem_map.mpr ⟨x, hx, rfl⟩)
              lia
            repeat walk_at "rr"
            repeat walk_at "rr"
            refine ⟨_, _, rfl, rfl, ?_, ?_⟩
            · have := ringsTo_len leads i
              simp [sizeLine_eq]; lia
            repeat walk_at "rr"
            refine ⟨_, ⟨b, rfl⟩, Le.cons rfl (Le.cons ?_ (Le.nil _))⟩
            rw [ringsTo_yes hr, hw]
            simp [nls, ns, ivs]
            rfl
          · have hr : isRing leads i = false := by
              unfold isRing; rw [hw]
              have q4' : (i : Int) ≠ (M : Int) := by simpa using q4
              have := hmin i (List.mem_map.mpr ⟨i, ?_, rfl⟩)
              · rw [Bool.and_eq_false_iff]
                refine .inr ?_
                rw [Bool.eq_false_iff]
                intro h
                have := List.all_eq_true.mp h M hM'
                simp at this
                lia
              · have := follow_head leads 4 [i] i (.head _)
                rw [← hw]; exact this
            repeat walk_at "rr"
            refine ⟨_, ⟨b, rfl⟩, Le.cons rfl (Le.cons ?_ (Le.nil _))⟩
            rw [ringsTo_no hr]; rfl
        · have hr : isRing leads i = false := by
            unfold isRing; rw [hw]
            rw [Bool.and_eq_false_iff]
            refine .inl ?_
            have : ((leads.getD (lastN w) 0 : Nat) : Int) ≠ (i : Int) := by simpa using q3
            rw [beq_eq_false_iff_ne]
            lia
          repeat walk_at "rr"
          refine ⟨_, ⟨b, rfl⟩, Le.cons rfl (Le.cons ?_ (Le.nil _))⟩
          rw [ringsTo_no hr]; rfl)
  · rintro τ ⟨b, rfl⟩
    repeat walk_at "rr"
    rfl
end
section
theorem kept_fn (text : List Nat) (hl : text.length ≤ 2 ^ 20) : Fn (nat_lit 141) 4 [.str (S text)] (.str (S (text.filter fun x => !b1 x))) := by
  refine Fn.intro' (n := 3) (name := .ofString "_law_kept") (qual := .ofString "_law_kept") (params := a141) (body := b141) (scope := s141) (pm := .str (.ofString "law_uc0003_01") 513) (cdv := .ref (nat_lit 140)) (ps := [.ofString "text"]) (fun _ => rfl) cd_law_kept (lens1 rfl fun v => rfl) rfl rfl (by decide) (by decide) rfl rfl rfl fun c C => ?_
  repeat walk_at "rr"
  refine S1.forStrC (C.loc rfl) ?_ (fun _ => rfl)
  repeat walk_at "rr"
  refine ⟨text, fun i τ => τ = [(.ofString "text", .frz (.str (S text))), (.ofString "kept", .frz (.str (S ((text.take i).filter fun x => !b1 x))))], rfl, ⟨_, rfl, Le.refl _⟩, ?_, ?_⟩
  · rintro i τ hi rfl
    have e : ∀ i (hi : i < text.length), (text.take (i + 1)).filter (fun x => !b1 x) = (text.take i).filter (fun x => !b1 x) ++ (if b1 text[i] then [] else [text[i]]) := fun i hi => by
      rw [List.take_add_one, List.filter_append, List.getElem?_eq_getElem hi]
      cases h : b1 text[i] <;> simp [h]
    repeat walk_at "rr"
    refine Fn.callOk (table_fn _) (C.ok.le (by decide)) ?_
    repeat walk_at "rr"
    refine ifQ (fun q => ?_) (fun q => ?_)
    · have hb : b1 text[i] = false := by cases h : b1 text[i] <;> simp_all
      repeat walk_at "rr"
      refine ⟨_, rfl, Le.cons rfl (Le.cons ?_ (Le.nil _))⟩
      rw [e i hi, hb]; rfl
      have := List.length_filter_le (fun x => !b1 x) (text.take i)
      simp at this ⊢; lia
    · have hb : b1 text[i] = true := by cases h : b1 text[i] <;> simp_all
      repeat walk_at "rr"
      refine ifQ (fun q => ?_) (fun q => ?_)
      · rw [hb] at q; exact absurd q (by decide)
      · repeat walk_at "rr"
        refine ⟨_, rfl, Le.cons rfl (Le.cons ?_ (Le.nil _))⟩
        rw [e i hi, hb]; simp; rfl
  · rintro τ rfl
    repeat walk_at "rr"
    rw [List.take_length]
end
section
noncomputable abbrev wTg (tg : List (List Nat)) : V := .lst (tg.map fun w => .lst (ivs (ns w)))
theorem nth_tg {tg : List (List Nat)} {i : Int} {k : Nat} (hi : i = (k : Int)) (h : k < tg.length) : nth (tg.map fun w => V.lst (ivs (ns w))) i = some (.lst (ivs (ns (tg.getD k [])))) := by
  subst hi
  rw [nth_map (fun w => V.lst (ivs (ns w))) [] (by lia) (by simpa using h)]
  simp
noncomputable def oSto (tg : List (List Nat)) (start : Nat) (b1 b2 : Addr) (o : OS) : Sto :=
  [(.ofString "targets", .frz (wTg tg)), (.ofString "start", .frz (.int start)), (.ofString "used", .own b1 (ivs (ns o.used))), (.ofString "rings", .own b2 (nls o.rings)), (.ofString "settled", .frz (.lst (ivs (ns o.settled))))]
noncomputable def wSto (tg : List (List Nat)) (start turn : Nat) (b1 b2 b3 : Addr) (settled : List Nat) (st : WS) : Sto :=
  [(.ofString "targets", .frz (wTg tg)), (.ofString "start", .frz (.int start)), (.ofString "used", .own b1 (ivs (ns st.used))), (.ofString "rings", .own b2 (nls st.rings)), (.ofString "settled", .frz (.lst (ivs (ns settled)))), (.ofString "turn", .frz (.int turn)), (.ofString "way", .own b3 (ivs (ns st.way))), (.ofString "site", .frz (.int st.site))]
theorem bump_take {u ring : List Nat} {i : Nat} (h : i < ring.length) : bump u (ring.take (i + 1)) = (bump u (ring.take i)).set (ring.getD i 0) ((bump u (ring.take i)).getD (ring.getD i 0) 0 + 1) := by
  unfold bump
  rw [List.take_add_one, List.getElem?_eq_getElem h, List.foldl_append]
  simp [List.getD_eq_getElem?_getD, List.getElem?_eq_getElem h]
theorem walks_fn (tg : List (List Nat)) (T : TgOk tg) (start : Nat) : Fn (nat_lit 182) 2 [wTg tg, .int start] (.tup [.lst (ivs (ns (walkers tg start 5).used)), .lst (nls (lsort (walkers tg start 5).rings))]) := by
  refine Fn.intro' (n := 1) (name := .ofString "_law_walks") (qual := .ofString "_law_walks") (params := a182) (body := b182) (scope := s182) (pm := .str (.ofString "law_uc0003_01") 513) (cdv := .ref (nat_lit 181)) (ps := [.ofString "targets", .ofString "start"]) (fun _ => rfl) cd_law_walks (lensS rfl fun v => lens1 rfl fun u => rfl) rfl rfl (by decide) (by decide) rfl rfl rfl fun c C => ?_
  walk_at "rr"
  refine S1.assignO (C.cel rfl) (EVO.mulList ?_) rfl
  refine EVO.toEV ?_
  repeat walk_at "rr"
  refine ⟨Nat.le_of_ble_eq_true rfl, ?_⟩
  repeat walk_at "rr"
  refine ⟨_, _, rfl, rfl, by simp, by decide, by decide, by decide, fun b1 => ?_⟩
  repeat walk_at "rr"
  refine ⟨Nat.le_of_ble_eq_true rfl, fun b2 => ?_⟩
  walk_at "rr"
  walk_at "rr"
  refine S1.assign (C.loc rfl) (EVO.toEV ?_) rfl
  repeat walk_at "rr"
  refine ⟨Nat.le_of_ble_eq_true rfl, ?_⟩
  repeat walk_at "rr"
  refine S1.forRangeC C.ok (C.kind rfl) (C.loc rfl) ?_ rfl (fun _ => rfl)
  repeat walk_at "rr"
  refine ⟨5, fun i τ => ∃ b1 b2, τ = oSto tg start b1 b2 (walkers tg start i), rfl, by decide, ⟨_, ⟨b1, b2, rfl⟩, Le.cons rfl (Le.cons rfl (Le.cons rfl (Le.cons rfl (Le.cons rfl (Le.nil _)))))⟩, ?_, ?_⟩
  · rintro turn τ hi ⟨b1, b2, rfl⟩
    have O := walkers_inv T start turn
    generalize ho : walkers tg start turn = o at O
    repeat walk_at "rr"
    refine ⟨Nat.le_of_ble_eq_true rfl, fun b3 => ?_⟩
    repeat walk_at "rr"
    have e5 : ((start : Int) + (turn : Int)).fmod 5 = (((start + turn) % 5 : Nat) : Int) := fmod_nat (start + turn) 5
    rw [e5]
    have S0 := O.start (start + turn)
    generalize hst0 : (⟨o.used, o.rings, [], (start + turn) % 5⟩ : WS) = st0 at S0
    refine S1.whileC 100 (fun k τ => ∃ st b1 b2 b3, τ = wSto tg start turn b1 b2 b3 o.settled st ∧ WInv tg o.settled st ∧ measW tg st ≤ k ∧ loopW tg o.settled k st = loopW tg o.settled 100 st0) ?_ ?_
    · exact ⟨_, ⟨st0, b1, b2, b3, rfl, S0.1, S0.2, rfl⟩, by subst hst0; exact Le.cons rfl (Le.cons rfl (Le.cons rfl (Le.cons rfl (Le.cons rfl (Le.cons rfl (Le.cons rfl (Le.cons rfl (Le.nil _))))))))⟩
    · rintro k τ ⟨st, b1, b2, b3, rfl, I, hk, hl⟩
      have O5 := O.sl
      unfold wSto
      repeat walk_at "rr"
      refine ⟨_, ns o.settled, rfl, .frz rfl, ?_⟩
      rw [any_ns]
      refine ifQ (fun q1 => ?_) (fun q1 => ?_)
      · have hs : st.site ∉ o.settled := by simpa using q1
        have s5 : st.site < 5 := by
          have := I.site
          have : st.site ≠ 5 := fun e => hs (e ▸ I.home)
          lia
        have p := popW_inv I hs
        have wl := nodup_len 5 _ I.nd I.lt
        walk_at "rr"
        refine S1.ifC (fun τ => ∃ b1 b2 b3, τ = wSto tg start turn b1 b2 b3 o.settled (popW st)) ?_ ?_
        rotate_left
        · rintro τ ⟨b1, b2, b3, rfl⟩
          have ulen := p.u.len
          have st' := stepW_inv T I hs
          have wl' := nodup_len 5 _ st'.1.nd st'.1.lt
          have wl2 : (popW st).way.length ≤ 5 := by
            have : (stepW tg st).way = (popW st).way ++ [st.site] := rfl
            rw [this, List.length_append] at wl'; lia
          have esite : (popW st).site = st.site := by unfold popW; split <;> rfl
          rw [show wSto tg start turn b1 b2 b3 o.settled (popW st) = wSto tg start turn b1 b2 b3 o.settled ⟨(popW st).used, (popW st).rings, (popW st).way, st.site⟩ by rw [← esite]]
          unfold wSto
          dsimp only
          have tlen := T.len
          have h3 : (tg.getD st.site []).length ≤ 3 := getD_all T.few (by rw [tlen]; exact s5) []
          obtain ⟨k', rfl⟩ : ∃ k', k = k' + 1 := ⟨k - 1, by have := st'.2; lia⟩
          have hl' : loopW tg o.settled k' (stepW tg st) = loopW tg o.settled 100 st0 := by
            rw [← hl]
            show _ = if _ then _ else _
            rw [if_neg hs]
          repeat walk_at "rr"
          refine ⟨_, _, rfl, rfl, by rw [List.length_map, List.length_map, sizeLine_eq]; lia, ?_⟩
          repeat walk_at "rr"
          refine ⟨_, _, rfl, rfl, by rw [List.length_map, List.length_map]; lia, nth_ns rfl (by lia), ?_⟩
          repeat walk_at "rr"
          refine ⟨_, _, rfl, rfl, by rw [List.length_map]; lia, nth_tg rfl (by lia), ?_⟩
          repeat walk_at "rr"
          refine CallOk.lenList (by rw [List.length_map, List.length_map]; lia) ?_
          rw [List.length_map, List.length_map]
          repeat walk_at "rr"
          refine ifD (fun q3 => ?_) (fun q3 => ?_)
          · refine EV.item ?_
            repeat walk_at "rr"
            refine ⟨_, _, rfl, rfl, by rw [List.length_map]; lia, nth_tg rfl (by lia), ?_⟩
            repeat walk_at "rr"
            refine ⟨_, _, rfl, rfl, by rw [List.length_map, List.length_map]; lia, nth_ns rfl (by lia), ?_⟩
            refine ⟨_, _, _, rfl, rfl, by rw [List.length_map, List.length_map]; lia, nth_ns rfl (by lia), ?_⟩
            repeat walk_at "rr"
            refine ⟨k', Nat.lt_succ_self _, _, ⟨stepW tg st, b1, b2, b3, rfl, st'.1, by have := st'.2; lia, hl'⟩, ?_⟩
            have en : nextSite tg (popW st).used st.site = (tg.getD st.site []).getD ((popW st).used.getD st.site 0) 0 := by
              unfold nextSite; rw [if_pos (by unfold lenT; lia)]
            refine Le.cons rfl (Le.cons rfl (Le.cons rfl (Le.cons rfl (Le.cons rfl (Le.cons rfl (Le.cons ?_ (Le.cons ?_ (Le.nil _))))))))
            · show _ = some (LV.own b3 (ivs (ns ((popW st).way ++ [st.site]))))
              simp [ns, ivs]; rfl
            · show _ = some (LV.frz (.int ((nextSite tg (popW st).used st.site : Nat) : Int)))
              rw [en]; rfl
          · repeat walk_at "rr"
            refine ⟨k', Nat.lt_succ_self _, _, ⟨stepW tg st, b1, b2, b3, rfl, st'.1, by have := st'.2; lia, hl'⟩, ?_⟩
            have en : nextSite tg (popW st).used st.site = 5 := by
              unfold nextSite; rw [if_neg (by unfold lenT; lia)]
            refine Le.cons rfl (Le.cons rfl (Le.cons rfl (Le.cons rfl (Le.cons rfl (Le.cons rfl (Le.cons ?_ (Le.cons ?_ (Le.nil _))))))))
            · show _ = some (LV.own b3 (ivs (ns ((popW st).way ++ [st.site]))))
              simp [ns, ivs]; rfl
            · show _ = some (LV.frz (.int ((nextSite tg (popW st).used st.site : Nat) : Int)))
              rw [en]; rfl
        repeat walk_at "rr"
        refine ⟨_, ns st.way, rfl, .own rfl, ?_⟩
        rw [any_ns]
        refine ifQ (fun q2 => ?_) (fun q2 => ?_)
        · have hw : st.site ∈ st.way := by simpa using q2
          repeat walk_at "rr"
          have hj := List.idxOf_lt_length_iff.mpr hw
          have lay : PyData.layable0 (.list ((ns st.way).map .int)) = true := lay_ns (fun x hx => by have := I.lt x hx; lia) (by lia)
          have slen : (ivs (ns st.way)).length ≤ sizeLine := by rw [List.length_map, List.length_map, sizeLine_eq]; lia
          refine ⟨_, rfl, rfl, lay, List.mem_map.mpr ⟨_, hw, rfl⟩, ?_⟩
          rw [idxOf_ns]
          refine ⟨_, rfl, ?_⟩
          repeat walk_at "rr"
          refine ⟨rfl, slen, by decide, fun b4 => ?_⟩
          rw [slc_from, ← List.map_drop, ← List.map_drop]
          repeat walk_at "rr"
          refine ⟨_, rfl, rfl, lay, List.mem_map.mpr ⟨_, hw, rfl⟩, ?_⟩
          rw [idxOf_ns]
          refine ⟨_, rfl, ?_⟩
          repeat walk_at "rr"
          refine ⟨rfl, slen, by decide, fun b5 => ?_⟩
          rw [slc_to, ← List.map_take, ← List.map_take]
          repeat walk_at "rr"
          refine EVO.toEV (EVO.comp C.pin (C.comp (by rfl)) ?_)
          generalize hr : st.way.drop (st.way.idxOf st.site) = ring
          have rlt : ∀ x ∈ ring, x < 5 := fun x hx => I.lt x (List.mem_of_mem_drop (hr ▸ hx))
          have rln : ring.length ≤ 5 := by rw [← hr, List.length_drop]; lia
          have ulen := I.u.len
          have rnd : ring.Nodup := by rw [← hr]; exact I.nd.sublist (List.drop_sublist _ _)
          refine SrcV.ns fun m => ?_
          repeat walk_at "rr"
          refine ⟨ring, rfl, by lia, fun i => .int ((4 * ring.getD i 0 + st.used.getD (ring.getD i 0) 0 + 1 : Nat) : Int), fun m i CC hi => ?_, ?_⟩
          · have r5 := getD_all rlt hi 0
            repeat walk_at "rr"
            refine BinOk.mulL (by decide) ?_
            repeat walk_at "rr"
            refine ⟨_, _, rfl, rfl, by rw [List.length_map, List.length_map]; lia, nth_ns rfl (by lia), ?_⟩
            repeat walk_at "rr"
            simp
          · rw [gen_ns (g := fun one => 4 * one + st.used.getD one 0 + 1)]
            repeat walk_at "rr"
            refine CallOk.sortedNs (by rw [List.length_map]; lia) ?_
            have rl := I.few
            refine ⟨_, _, rfl, rfl, by rw [List.length_map, sizeLine_eq]; lia, ?_⟩
            repeat walk_at "rr"
            refine S1.forListC (C.loc rfl) ?_ (fun _ => rfl)
            repeat walk_at "rr"
            refine ⟨_, fun i τ => ∃ b1, τ = wSto tg start turn b1 b2 b5 o.settled ⟨bump st.used (ring.take i), st.rings ++ [ringRow st.used ring], st.way.take (st.way.idxOf st.site), st.site⟩, rfl, ⟨_, ⟨b1, rfl⟩, Le.cons rfl (Le.cons rfl (Le.cons rfl (Le.cons ?_ (Le.cons rfl (Le.cons rfl (Le.cons rfl (Le.cons rfl (Le.nil _))))))))⟩, ?_, ?_⟩
            · simp [nls, ringRow]; rfl
            · rintro i τ hi ⟨b1, rfl⟩
              have hi' : i < ring.length := by simpa using hi
              have r5 := getD_all rlt hi' 0
              have bl := bump_len (ring.take i) st.used
              unfold wSto
              dsimp only
              repeat walk_at "rr"
              refine' S1.augItem (b := b1) (xs := ivs (ns (bump st.used (ring.take i)))) ?hx ?_ ?ha ?h1 ?h2
              case hx => exact rfl
              case ha => exact fun _ _ _ => rfl
              case h1 => decide
              case h2 => decide
              repeat walk_at "rr"
              have eo : (List.map V.int (List.map (fun (n : Nat) => (n : Int)) ring))[i] = V.int ((ring.getD i 0 : Nat) : Int) := by
                simp [List.getD_eq_getElem?_getD, hi']
              refine ⟨((ring.getD i 0 : Nat) : Int), (((bump st.used (ring.take i)).getD (ring.getD i 0) 0 : Nat) : Int), eo, rfl, by lia, ?_, by rw [List.length_map, List.length_map]; lia, ?_⟩
              · rw [Int.toNat_natCast, List.getElem?_map, List.getElem?_map, List.getElem?_eq_getElem (by lia)]
                rw [List.getD_eq_getElem?_getD (l := bump st.used (ring.take i)), List.getElem?_eq_getElem (show ring.getD i 0 < (bump st.used (ring.take i)).length by lia)]
                rfl
              repeat walk_at "rr"
              refine ⟨1, rfl, rfl, ?_⟩
              repeat walk_at "rr"
              refine ⟨_, ⟨b1, rfl⟩, Le.cons rfl (Le.cons rfl (Le.cons ?_ (Le.cons rfl (Le.cons rfl (Le.cons rfl (Le.cons rfl (Le.cons rfl (Le.nil _))))))))⟩
              show some (LV.own b1 _) = some (LV.own b1 _)
              rw [bump_take hi', Int.toNat_natCast]
              simp [ns, ivs, List.map_set]
            · rintro τ ⟨b1, rfl⟩
              simp only [List.length_map, List.take_length]
              repeat walk_at "rr"
              refine ⟨_, ⟨b1, b2, b5, rfl⟩, ?_⟩
              unfold popW
              rw [if_pos hw, hr]
              exact Le.refl _
        · have hw : st.site ∉ st.way := by simpa using q2
          repeat walk_at "rr"
          refine ⟨_, ⟨b1, b2, b3, rfl⟩, ?_⟩
          unfold popW
          rw [if_neg hw]
          exact Le.refl _
      · have hs : st.site ∈ o.settled := by simpa using q1
        have wl := nodup_len 5 _ I.nd I.lt
        have e1 : loopW tg o.settled k st = st := by
          cases k with
          | zero => rfl
          | succ k => unfold loopW; rw [if_pos hs]
        rw [e1] at hl
        repeat walk_at "rr"
        refine ⟨_, ⟨b1, b2, rfl⟩, Le.cons rfl (Le.cons rfl (Le.cons ?_ (Le.cons ?_ (Le.cons ?_ (Le.nil _)))))⟩
        all_goals (try (show walkers tg start (turn + 1) = _))
        · show some (LV.own b1 _) = some (LV.own b1 _)
          rw [show walkers tg start (turn + 1) = ⟨st.used, st.rings, o.settled ++ st.way⟩ by show walkOne tg start turn (walkers tg start turn) = _; rw [ho]; unfold walkOne; rw [hst0, ← hl]]
        · show some (LV.own b2 _) = some (LV.own b2 _)
          rw [show walkers tg start (turn + 1) = ⟨st.used, st.rings, o.settled ++ st.way⟩ by show walkOne tg start turn (walkers tg start turn) = _; rw [ho]; unfold walkOne; rw [hst0, ← hl]]
        · show some (LV.frz _) = some (LV.frz _)
          rw [show walkers tg start (turn + 1) = ⟨st.used, st.rings, o.settled ++ st.way⟩ by show walkOne tg start turn (walkers tg start turn) = _; rw [ho]; unfold walkOne; rw [hst0, ← hl]]
          simp [ns, ivs]
        · rw [List.length_map, List.length_map, List.length_map, List.length_map]; lia
  · rintro τ ⟨b1, b2, rfl⟩
    unfold oSto
    repeat walk_at "rr"
    have O := walkers_inv T start 5
    have := O.few
    refine CallOk.sortedNls (by lia) (by have := C.ok.units; lia) ?_
    repeat walk_at "rr"
    refine ⟨Nat.le_of_ble_eq_true rfl, ?_⟩
    repeat walk_at "rr"
    rfl
end
section
theorem ends3_len (i : Nat) : (ends3.getD i []).length ≤ 2 := by
  match i with
  | 0 => decide
  | 1 => decide
  | 2 => decide
  | n + 3 => exact Nat.zero_le _
theorem rows_succ (level bare letters : List Nat) (turn draw k : Nat) : rowsT level bare letters turn draw (k + 1) = rowsT level bare letters turn draw k ++ rowT level bare letters turn draw k := by
  unfold rowsT; rw [List.range_succ, List.map_append, List.flatten_append]; simp
theorem rowT_len {level : List Nat} (h : ∀ x ∈ level, x ≤ 10) (hl : level.length = 5) (bare letters : List Nat) (turn draw k : Nat) : (rowT level bare letters turn draw k).length ≤ 15 := by
  have := ends3_len ((draw + turn + k) % 3)
  have := getD_all h (i := (turn + k) % 5) (by lia) 0
  unfold rowT
  simp only [List.length_append, List.length_replicate, List.length_singleton]
  split <;> simp only [List.length_nil, List.length_singleton] <;> lia
theorem rows_len {level : List Nat} (h : ∀ x ∈ level, x ≤ 10) (hl : level.length = 5) (bare letters : List Nat) (turn draw : Nat) : ∀ k, (rowsT level bare letters turn draw k).length ≤ 15 * k
  | 0 => Nat.le_refl _
  | k + 1 => by
    have := rows_len h hl bare letters turn draw k
    have := rowT_len h hl bare letters turn draw k
    rw [rows_succ, List.length_append]; lia
theorem ends4_len (i : Nat) : (ends4.getD i []).length ≤ 2 := by
  match i with
  | 0 => decide
  | 1 => decide
  | 2 => decide
  | 3 => decide
  | n + 4 => exact Nat.zero_le _
theorem ends3_get {i : Nat} (h : i < 3) : [V.str (S [10]), V.str (S [13]), V.str (S [13, 10])][i]? = some (.str (S (ends3.getD i []))) := by
  exact lt3 (P := fun i => [V.str (S [10]), V.str (S [13]), V.str (S [13, 10])][i]? = some (.str (S (ends3.getD i [])))) rfl rfl rfl i h
theorem ends4_get {i : Nat} (h : i < 4) : [V.str (S []), V.str (S [10]), V.str (S [13]), V.str (S [13, 10])][i]? = some (.str (S (ends4.getD i []))) := by
  exact lt4 (P := fun i => [V.str (S []), V.str (S [10]), V.str (S [13]), V.str (S [13, 10])][i]? = some (.str (S (ends4.getD i [])))) rfl rfl rfl rfl i h
theorem hidN_eq (d : Nat) : ch (hidI d) = S [hidN d] := rfl
theorem besN_eq (d : Nat) : ch (besI d) = S [besN d] := rfl
noncomputable abbrev ltr (letters : List Nat) : V := .lst (letters.map fun l => .str (S [l]))
theorem posted_fn (level bare letters : List Nat) (turn draw : Nat) (hl : level.length = 5) (h10 : ∀ x ∈ level, x ≤ 10) (hlt : letters.length = 5) (ht : turn ≤ 100) :
    Fn (nat_lit 163) 22 [.lst (ivs (ns level)), .lst (ivs (ns bare)), ltr letters, .int turn, .int draw] (.str (S ((quoteT (postT level bare letters turn draw)).filter fun x => !b1 x))) := by
  refine Fn.intro' (n := 21) (name := .ofString "_law_posted") (qual := .ofString "_law_posted") (params := a163) (body := b163) (scope := s163) (pm := .str (.ofString "law_uc0003_01") 513) (cdv := .ref (nat_lit 162)) (ps := [.ofString "level", .ofString "bare", .ofString "letters", .ofString "turn", .ofString "draw"]) (fun _ => rfl) cd_law_posted (lensS rfl fun v => lensS rfl fun u => lensS rfl fun w => lensS rfl fun x => lens1 rfl fun y => rfl) rfl rfl (by decide) (by decide) rfl rfl rfl fun c C => ?_
  repeat walk_at "rr"
  refine S1.forRangeC C.ok (C.kind rfl) (C.loc rfl) ?_ rfl (fun _ => rfl)
  repeat walk_at "rr"
  refine ⟨5, fun i τ => τ = [(.ofString "level", .frz (.lst (ivs (ns level)))), (.ofString "bare", .frz (.lst (ivs (ns bare)))), (.ofString "letters", .frz (ltr letters)), (.ofString "turn", .frz (.int turn)), (.ofString "draw", .frz (.int draw)), (.ofString "text", .frz (.str (S (rowsT level bare letters turn draw i))))], rfl, by decide, ⟨_, rfl, Le.refl _⟩, ?_, ?_⟩
  · rintro k τ hi rfl
    have rl := rows_len h10 hl bare letters turn draw k
    repeat walk_at "rq"
    have e5 : ((turn : Int) + (k : Int)).fmod 5 = (((turn + k) % 5 : Nat) : Int) := fmod_nat (turn + k) 5
    rw [e5]
    have m5 : (turn + k) % 5 < 5 := Nat.mod_lt _ (by decide)
    refine S1.ifC (fun τ => τ = [(.ofString "level", .frz (.lst (ivs (ns level)))), (.ofString "bare", .frz (.lst (ivs (ns bare)))), (.ofString "letters", .frz (ltr letters)), (.ofString "turn", .frz (.int turn)), (.ofString "draw", .frz (.int draw)), (.ofString "text", .frz (.str (S (rowsT level bare letters turn draw k ++ if (turn + k) % 5 ∈ bare then [] else [hidN (draw + turn + k)])))), (.ofString "place", .frz (.int k)), (.ofString "site", .frz (.int ((turn + k) % 5 : Nat)))]) ?_ ?_
    · repeat walk_at "rr"
      refine ⟨_, ns bare, rfl, .frz rfl, ?_⟩
      rw [any_ns]
      refine ifQ (fun q1 => ?_) (fun q1 => ?_)
      · have hb : (turn + k) % 5 ∉ bare := by simpa using q1
        repeat walk_at "rr"
        rw [show (draw : Int) + turn + k = ((draw + turn + k : Nat) : Int) by lia]
        refine Fn.callOk (hidden_fn _) (C.ok.le (by decide)) ?_
        rw [hidN_eq]
        repeat walk_at "rr"
        refine ⟨_, rfl, ?_⟩
        rw [if_neg hb]
        exact Le.refl _
        simp only [List.length_singleton]; lia
      · have hb : (turn + k) % 5 ∈ bare := by simpa using q1
        repeat walk_at "rr"
        refine ⟨_, rfl, ?_⟩
        rw [if_pos hb, List.append_nil]
        exact Le.refl _
    · rintro τ rfl
      have l10 := getD_all h10 (i := (turn + k) % 5) (by lia) 0
      repeat walk_at "rr"
      refine ⟨_, _, rfl, rfl, by rw [List.length_map, List.length_map]; lia, nth_ns rfl (by lia), ?_⟩
      repeat walk_at "rr"
      refine BinOk.mulS (by lia) (by lia) ?_
      repeat walk_at "rr"
      refine ⟨_, _, rfl, rfl, by rw [List.length_map]; lia, nth_map (fun l => V.str (S [l])) 0 (by lia) (by rw [hlt]; lia), ?_⟩
      repeat walk_at "rr"
      refine EV.itemT ?_
      repeat walk_at "rr"
      refine ⟨Nat.le_of_ble_eq_true rfl, ?_⟩
      repeat walk_at "rr"
      have e3 : ((draw : Int) + turn + k).fmod 3 = (((draw + turn + k) % 3 : Nat) : Int) := fmod_nat (draw + turn + k) 3
      rw [e3]
      have m3 : (draw + turn + k) % 3 < 3 := Nat.mod_lt _ (by decide)
      have el3 := ends3_len ((draw + turn + k) % 3)
      refine ⟨_, _, .str (S (ends3.getD ((draw + turn + k) % 3) [])), rfl, rfl, by lia, by show 3 < 2 ^ 62; decide, by rw [Int.toNat_natCast]; exact ends3_get m3, ?_⟩
      have er : (1 + ((level.getD ((turn + k) % 5) 0 : Nat) : Int)).toNat = 1 + level.getD ((turn + k) % 5) 0 := by lia
      rw [er]
      repeat walk_at "rr"
      refine ⟨_, rfl, Le.cons rfl (Le.cons rfl (Le.cons rfl (Le.cons rfl (Le.cons rfl (Le.cons ?_ (Le.nil _))))))⟩
      · rw [rows_succ]
        show some (LV.frz _) = some (LV.frz _)
        simp only [rowT, Int.toNat_natCast, List.append_assoc]
      all_goals (
        simp only [List.length_append, List.length_replicate, List.length_singleton]
        try split
        all_goals (try simp only [List.length_nil, List.length_singleton])
        all_goals lia)
  · rintro τ rfl
    have rl := rows_len h10 hl bare letters turn draw 5
    repeat walk_at "rr"
    refine BinOk.mulS (by lia) (by lia) ?_
    repeat walk_at "rr"
    rw [show (draw : Int) + turn = ((draw + turn : Nat) : Int) by lia]
    refine Fn.callOk (beside_fn _) (C.ok.le (by decide)) ?_
    rw [besN_eq]
    repeat walk_at "rr"
    refine EV.itemT ?_
    repeat walk_at "rr"
    refine ⟨Nat.le_of_ble_eq_true rfl, ?_⟩
    repeat walk_at "rr"
    refine BinOk.fdivS (by decide) (by decide) ?_
    repeat walk_at "rr"
    have e16 : (draw : Int).fdiv 16 = ((draw / 16 : Nat) : Int) := fdiv_nat draw 16
    have e4 : ((draw : Int).fdiv 16 + turn).fmod 4 = (((draw / 16 + turn) % 4 : Nat) : Int) := by rw [e16]; exact fmod_nat (draw / 16 + turn) 4
    rw [e4]
    have m4 : (draw / 16 + turn) % 4 < 4 := Nat.mod_lt _ (by decide)
    have el4 := ends4_len ((draw / 16 + turn) % 4)
    refine ⟨_, _, .str (S (ends4.getD ((draw / 16 + turn) % 4) [])), rfl, rfl, by lia, by show 4 < 2 ^ 62; decide, by rw [Int.toNat_natCast]; exact ends4_get m4, ?_⟩
    have er : (1 + (turn : Int)).toNat = 1 + turn := by lia
    rw [er]
    repeat walk_at "rr"
    have ep : rowsT level bare letters turn draw 5 ++ ([13, 46, 10] ++ List.replicate (1 + turn) 46 ++ [besN (draw + turn)] ++ [46] ++ ends4.getD ((draw / 16 + turn) % 4) []) = postT level bare letters turn draw := rfl
    rw [ep]
    have pl : (postT level bare letters turn draw).length ≤ 400 := by
      unfold postT
      simp only [List.length_append, List.length_replicate, List.length_singleton, List.length_cons, List.length_nil]
      lia
    have ql := quote_len (postT level bare letters turn draw)
    refine Fn.callOk (quote_fn _ (by lia)) (C.ok.le (by decide)) ?_
    repeat walk_at "rr"
    refine Fn.callOk (kept_fn _ (by lia)) (C.ok.le (by decide)) ?_
    repeat walk_at "rr"
    rfl
    all_goals (
      simp only [List.length_append, List.length_replicate, List.length_singleton, List.length_cons, List.length_nil]
      lia)
end
section
theorem levStep_len (marks : List Nat) (p : List Int × Nat) (x : Nat) : (levStep marks p x).1.length = p.1.length := by
  unfold levStep; split
  · rfl
  · split
    · simp
    · rfl
theorem levT_len (marks : List Nat) : ∀ (l : List Nat) (p : List Int × Nat), (l.foldl (levStep marks) p).1.length = p.1.length
  | [], p => rfl
  | x :: r, p => by rw [List.foldl_cons, levT_len marks r, levStep_len]
theorem levT_succ (marks l : List Nat) {i : Nat} (h : i < l.length) : levT marks (l.take (i + 1)) = levStep marks (levT marks (l.take i)) (l.getD i 0) := by
  unfold levT
  rw [List.take_add_one, List.getElem?_eq_getElem h, List.foldl_append]
  simp [List.getD_eq_getElem?_getD, List.getElem?_eq_getElem h]
theorem levels_fn (text marks : List Nat) (ht : text.length ≤ 2000) (hm : marks.length = 5) (hb : ∀ x ∈ marks, x < 2 ^ 20) :
    FnT (nat_lit 170) 6 [.str (S text), .lst (ivs (ns marks))] (.lst (ivs (levT marks (numbersT 0 text)).1)) := by
  refine FnT.intro (n := 5) (name := .ofString "_law_levels") (qual := .ofString "_law_levels") (params := a170) (body := b170) (scope := s170) (pm := .str (.ofString "law_uc0003_01") 513) (cdv := .ref (nat_lit 169)) (ps := [.ofString "text", .ofString "marks"]) (fun _ => rfl) cd_law_levels (lensS rfl fun v => lens1 rfl fun u => rfl) rfl rfl (by decide) (by decide) rfl rfl rfl fun c C hst => ?_
  walk_at "rr"
  refine S1.assignO (C.loc rfl) (EVO.mulList ?_) rfl
  refine EVO.toEV ?_
  repeat walk_at "rr"
  refine ⟨Nat.le_of_ble_eq_true rfl, ?_⟩
  repeat walk_at "rr"
  refine ⟨_, _, rfl, rfl, by simp, by decide, by decide, by decide, fun b1 => ?_⟩
  repeat walk_at "rr"
  refine S1.forListC (C.loc rfl) ?_ (fun _ => rfl)
  repeat walk_at "rr"
  refine FnT.callOk (numbers_fn _ ht) (C.ok.le (by decide)) hst C.pin ?_
  generalize numbersT 0 text = l
  refine ⟨_, fun i τ => ∃ b, τ = [(.ofString "text", .frz (.str (S text))), (.ofString "marks", .frz (.lst (ivs (ns marks)))), (.ofString "level", .own b (ivs (levT marks (l.take i)).1)), (.ofString "dots", .frz (.int (levT marks (l.take i)).2))], rfl, ⟨_, ⟨b1, rfl⟩, Le.refl _⟩, ?_, ?_⟩
  · rintro i τ hi ⟨b, rfl⟩
    have hi' : i < l.length := by simpa using hi
    have e1 : (List.map V.int (List.map (fun (n : Nat) => (n : Int)) l))[i] = V.int ((l.getD i 0 : Nat) : Int) := by
      simp [List.getD_eq_getElem?_getD, hi']
    have es := levT_succ marks l hi'
    have ll : (levT marks (l.take i)).1.length = 5 := levT_len marks _ _
    rw [e1]
    generalize l.getD i 0 = x at es
    generalize levT marks (l.take i) = p at es ll
    repeat walk_at "rr"
    refine ifQ (fun q1 => ?_) (fun q1 => ?_)
    · have hx : x = 46 := by have := beq_iff_eq.mp q1; lia
      repeat walk_at "rr"
      refine InOk.addInt ?_
      repeat walk_at "rr"
      refine ⟨_, ⟨b, rfl⟩, ?_⟩
      rw [es]; unfold levStep; rw [if_pos hx]
      exact Le.cons rfl (Le.cons rfl (Le.cons rfl (Le.cons rfl (Le.nil _))))
    · have hx : x ≠ 46 := by have : (x : Int) ≠ 46 := by simpa using q1
                             lia
      repeat walk_at "rr"
      refine ⟨_, ns marks, rfl, .frz rfl, ?_⟩
      rw [any_ns]
      refine ifQ (fun q2 => ?_) (fun q2 => ?_)
      · have hx2 : x ∈ marks := by simpa using q2
        repeat walk_at "rr"
        refine' S1.setItem ?_ ?hs ?h1 ?h2
        case hs => rfl
        case h1 => decide
        case h2 => decide
        repeat walk_at "rr"
        refine ⟨_, _, rfl, ?_⟩
        repeat walk_at "rr"
        have lay : PyData.layable0 (.list ((ns marks).map .int)) = true := lay_ns hb (by lia)
        refine ⟨_, rfl, rfl, lay, List.mem_map.mpr ⟨_, hx2, rfl⟩, ?_⟩
        rw [idxOf_ns]
        have hj := List.idxOf_lt_length_iff.mpr hx2
        refine ⟨_, _, rfl, rfl, by lia, by rw [List.length_map]; lia, by rw [List.length_map]; lia, ?_⟩
        repeat walk_at "rr"
        refine ⟨_, ⟨b, rfl⟩, ?_⟩
        rw [es]; unfold levStep; rw [if_neg hx, if_pos hx2]
        refine Le.cons rfl (Le.cons rfl (Le.cons ?_ (Le.cons rfl (Le.nil _))))
        show some (LV.own b _) = some (LV.own b _)
        rw [Int.toNat_natCast]
        simp [ivs, List.map_set]
      · have hx2 : x ∉ marks := by simpa using q2
        repeat walk_at "rr"
        refine ⟨_, ⟨b, rfl⟩, ?_⟩
        rw [es]; unfold levStep; rw [if_neg hx, if_neg hx2]
        exact Le.cons rfl (Le.cons rfl (Le.cons rfl (Le.cons rfl (Le.nil _))))
  · rintro τ ⟨b, rfl⟩
    repeat walk_at "rr"
    rw [List.length_map, List.length_map, List.take_length]
end
section
noncomputable abbrev pkD {a0 a1 a2 a3 a4 a5 a6 a7 a8 a9 aa ab ac : Stmt} {r : List Stmt} (_ : b187 = a0 :: a1 :: a2 :: a3 :: a4 :: a5 :: a6 :: a7 :: a8 :: a9 :: aa :: ab :: ac :: r) : List Stmt := r
noncomputable abbrev bTail : List Stmt := pkD rfl
section
variable {c : Cx} {env : Env} {σ : Sto} {e : Expr} {pos p : Pos} {Post : V → Sto → Prop} {lo hi st : Option Expr}
theorem EV.sliceE (h : EV c env e σ fun a σ₁ => PV c env lo σ₁ fun i σ₂ => PV c env hi σ₂ fun j σ₃ => PV c env st σ₃ fun k σ₄ => ∃ xs, a = .lst xs ∧ xs.length ≤ sizeLine ∧ k ≠ some 0 ∧ Post (.lst (slc xs i j k)) σ₄)
    (hs : ∀ o i, ∃ ops, subscripted (.Slice lo hi st p) false o i = operate ops (getItem o i)) : EV c env (.Subscript e (.Slice lo hi st p) pos) σ Post := EVO.toEV (EVO.slice h hs)
end
theorem mail_len {v letters : List Nat} (hv : v.length = 5) (h10 : ∀ x ∈ v, x ≤ 10) (turn draw : Nat) (ht : turn ≤ 100) : (mailM v letters turn draw).length ≤ 400 := by
  have row : ∀ s, (rowM v letters s).length ≤ 14 := fun s => by
    unfold rowM
    simp only [List.length_append, List.length_replicate, List.length_cons, List.length_nil]
    by_cases hs : s < 5
    · have := getD_all h10 (i := s) (by lia) 0; lia
    · rw [List.getD_eq_getElem?_getD, List.getElem?_eq_none (by lia)]; show 1 + 0 + _ ≤ _; lia
  have rows : ∀ k, (rowsM v letters turn k).length ≤ 14 * k := fun k => by
    induction k with
    | zero => simp [rowsM]
    | succ k ih =>
      unfold rowsM at ih ⊢
      rw [List.range_succ, List.map_append, List.flatten_append, List.length_append]
      have := row ((turn + k) % 5)
      simp only [List.map_cons, List.map_nil, List.flatten_cons, List.flatten_nil, List.append_nil]
      lia
  have := rows 5
  unfold mailM tailM
  simp only [List.length_append, List.length_replicate, List.length_cons, List.length_nil]
  split <;> simp only [List.length_cons, List.length_nil] <;> lia
theorem rowsM_succ (v letters : List Nat) (turn k : Nat) : rowsM v letters turn (k + 1) = rowsM v letters turn k ++ rowM v letters ((turn + k) % 5) := by
  unfold rowsM; rw [List.range_succ, List.map_append, List.flatten_append]; simp
theorem rowsM_len {v letters : List Nat} (hv : v.length = 5) (h10 : ∀ x ∈ v, x ≤ 10) (turn : Nat) : ∀ k, (rowsM v letters turn k).length ≤ 14 * k
  | 0 => by simp [rowsM]
  | k + 1 => by
    have := rowsM_len hv h10 (letters := letters) turn k
    have := getD_all h10 (i := (turn + k) % 5) (by lia) 0
    rw [rowsM_succ, List.length_append]
    unfold rowM
    simp only [List.length_append, List.length_replicate, List.length_cons, List.length_nil]; lia
structure LawOk (H : List Nat) (base : Nat) (tg : List (List Nat)) : Prop where
  len : H.length = 7
  base : base = H.getD 6 0 % 100 % 22
  ok : TgOk tg
  self : NoSelf tg
theorem LawOk.b21 {H : List Nat} {base : Nat} {tg : List (List Nat)} (h : LawOk H base tg) : base ≤ 21 := by have := h.base; lia
theorem nls_eq (l : List (List Nat)) : nls l = (l.map ns).map fun xs => V.lst (ivs xs) := by unfold nls; rw [List.map_map]; rfl
theorem num_nls (l : List (List Nat)) : (V.lst (nls l)).num = true := by rw [nls_eq]; exact num_lst (nums_lists _)
theorem dep_nls (l : List (List Nat)) : (V.lst (nls l)).data.depth ≤ 2 := by rw [nls_eq]; exact dep_llst _
theorem num_ivs (l : List Int) : (V.lst (ivs l)).num = true := num_lst (nums_ivs _)
theorem figs_get {base : Nat} {ts : List Nat} {i : Nat} (h : i < ts.length) : (figs base ts).getD i 0 = 33 + base + ts.getD i 0 := by simp [List.getD_eq_getElem?_getD, h]
theorem slcN_from (D : List Nat) (k : Nat) : slc (ivs (ns D)) (some (k : Int)) none none = ivs (ns (D.drop k)) := by rw [slc_from, ← List.map_drop, ← List.map_drop]
theorem slcN_to (D : List Nat) (k : Nat) : slc (ivs (ns D)) none (some (k : Int)) none = ivs (ns (D.take k)) := by rw [slc_to, ← List.map_take, ← List.map_take]
theorem slcN_rev (D : List Nat) : slc (ivs (ns D)) none none (some (-1)) = ivs (ns D.reverse) := by rw [slc_rev, ← List.map_reverse, ← List.map_reverse]
theorem dep_tup2 (i j : Int) : (V.tup [.int i, .int j]).data.depth ≤ 1 := by
  unfold V.data V.datas V.datas V.datas V.data PyData.depth PyData.depthAll PyData.depthAll PyData.depthAll PyData.depth; decide
theorem num_tup2 (i j : Int) : (V.tup [.int i, .int j]).num = true := num_tup (nums_cons num_int (nums_cons num_int nums_nil))
theorem pow64 (L : Nat) : ((64 : Int) ^ ((L : Int)).toNat) = ((64 ^ L : Nat) : Int) := by rw [Int.toNat_natCast]; exact (Int.natCast_pow 64 L).symm
theorem vlen (D : List Nat) : (ivs (ns D)).length = D.length := by rw [List.length_map, List.length_map]
noncomputable def tS (H : List Nat) (base : Nat) (tg : List (List Nat)) (u : List Nat) (rs : List (List Nat)) (bB bR : Addr) (M : List Nat) (extra : Sto) : Sto :=
  (.ofString "heaps", .frz (.lst (ivs (ns H)))) :: (.ofString "base", .frz (.int base)) :: (.ofString "letters", .frz (ltr (lettersOf base))) :: (.ofString "targets", .frz (wTg tg)) :: (.ofString "books", .own bB (ivs (ns (tg.map (bookN base))))) ::
      (.ofString "level", .frz (.lst (ivs (ns (u.map (· + 1)))))) :: (.ofString "broken", .own bR (nls rs)) :: (.ofString "text", .frz (.str (S M))) :: extra
theorem tail_ok {c : Cx} (C : c.Is s187 23) {H : List Nat} {base : Nat} {tg : List (List Nat)} (O : LawOk H base tg) {rs : List (List Nat)} {u : List Nat} (R : Run tg [0, 0, 0, 0, 0] rs u) (U : UOk tg u) (few : rs.length ≤ 7) (bB bR : Addr) :
    ST c bTail (tS H base tg u rs bB bR (mailM (u.map (· + 1)) (lettersOf base) rs.length (H.getD 6 0 / 100)) []) (fun o _ => o = .ret (.bool true)) := by
  have b21 := O.b21
  have W := walkers_run O.ok (H.getD 5 0 / 1000)
  obtain ⟨pm, eu⟩ := Run.same R rfl W
  have hlen := O.len
  have ulen := U.len
  have u3 : ∀ s, s < 5 → u.getD s 0 ≤ 3 := fun s hs => by
    have := U.le s hs
    have : lenT tg s ≤ 3 := getD_all O.ok.few (by rw [O.ok.len]; exact hs) []
    lia
  have vget : ∀ s, s < 5 → (u.map (· + 1)).getD s 0 = u.getD s 0 + 1 := fun s hs => by
    simp [List.getD_eq_getElem?_getD, List.getElem?_eq_getElem (show s < u.length by lia)]
  have v10 : ∀ x ∈ u.map (· + 1), x ≤ 10 := fun x hx => by
    obtain ⟨y, hy, rfl⟩ := List.mem_map.mp hx
    obtain ⟨i, hi, rfl⟩ := List.getElem_of_mem hy
    have := u3 i (by lia)
    rw [List.getD_eq_getElem?_getD, List.getElem?_eq_getElem hi] at this
    have : u[i] ≤ 3 := this
    lia
  have vl : (u.map (· + 1)).length = 5 := by simpa using ulen
  have el : lsort (walkers tg (H.getD 5 0 / 1000) 5).rings = lsort rs := (lsort_eq pm).symm
  have dl : (lsort rs).length = rs.length := (lsort_perm rs).length_eq
  unfold tS
  repeat walk_at "rq"
  refine S1.assign2 (C.cel rfl) (C.loc rfl) ?_ rfl rfl
  repeat walk_at "rq"
  refine ⟨_, _, rfl, rfl, by rw [List.length_map, List.length_map]; lia, nth_ns (k := 5) rfl (by lia), ?_⟩
  repeat walk_at "rq"
  refine BinOk.fdivS (by decide) (by decide) ?_
  repeat walk_at "rq"
  rw [show ((H.getD 5 0 : Nat) : Int).fdiv 1000 = ((H.getD 5 0 / 1000 : Nat) : Int) from fdiv_nat _ _]
  refine Fn.callOk (walks_fn tg O.ok _) (C.ok.le (by decide)) ?_
  rw [el, ← eu]
  refine ⟨_, _, rfl, ?_⟩
  repeat walk_at "rq"
  -- the page
  refine S1.forRangeC C.ok (C.kind rfl) (C.loc rfl) ?_ rfl (fun _ => rfl)
  repeat walk_at "rq"
  generalize hM : mailM (u.map (· + 1)) (lettersOf base) rs.length (H.getD 6 0 / 100) = M
  refine ⟨5, fun i τ => τ = tS H base tg u rs bB bR M [(.ofString "used", .frz (.lst (ivs (ns u)))), (.ofString "due", .frz (.lst (nls (lsort rs)))), (.ofString "page", .frz (.str (S (rowsM (u.map (· + 1)) (lettersOf base) rs.length i))))], rfl, by decide, ⟨_, rfl, Le.refl _⟩, ?_, ?_⟩
  · rintro k τ hi rfl
    unfold tS
    have rl := rowsM_len vl v10 (letters := lettersOf base) rs.length k
    repeat walk_at "rq"
    refine CallOk.lenList (by rw [List.length_map, dl]; lia) ?_
    rw [List.length_map, dl]
    repeat walk_at "rq"
    have e5 : ((rs.length : Int) + (k : Int)).fmod 5 = (((rs.length + k) % 5 : Nat) : Int) := fmod_nat (rs.length + k) 5
    rw [e5]
    have m5 : (rs.length + k) % 5 < 5 := Nat.mod_lt _ (by decide)
    have hu3 := u3 _ m5
    refine ⟨_, _, rfl, rfl, by rw [List.length_map, List.length_map]; lia, nth_ns rfl (by lia), ?_⟩
    repeat walk_at "rq"
    refine BinOk.mulS (by lia) (by lia) ?_
    repeat walk_at "rq"
    refine ⟨_, _, rfl, rfl, by rw [List.length_map]; simp, nth_map (fun l => V.str (S [l])) 0 (by lia) (by simp; lia), ?_⟩
    repeat walk_at "rq"
    refine ⟨_, rfl, ?_⟩
    refine Le.cons rfl (Le.cons rfl (Le.cons rfl (Le.cons rfl (Le.cons rfl (Le.cons rfl (Le.cons rfl (Le.cons rfl (Le.cons rfl (Le.cons rfl (Le.cons ?_ (Le.nil _)))))))))))
    · rw [rowsM_succ]
      show some (LV.frz _) = some (LV.frz _)
      unfold rowM
      rw [vget _ m5, Int.toNat_natCast, show (2 + ((u.getD ((rs.length + k) % 5) 0 : Nat) : Int)).toNat = 1 + (u.getD ((rs.length + k) % 5) 0 + 1) by lia]
      simp only [List.append_assoc, List.cons_append, List.nil_append]
    all_goals (
      simp only [List.length_append, List.length_replicate, List.length_singleton, List.length_cons, List.length_nil]
      lia)
  · rintro τ rfl
    unfold tS
    have rl := rowsM_len vl v10 (letters := lettersOf base) rs.length 5
    repeat walk_at "rq"
    refine CallOk.lenList (by rw [List.length_map, dl]; lia) ?_
    rw [List.length_map, dl]
    repeat walk_at "rq"
    refine BinOk.mulS (by lia) (by lia) ?_
    repeat walk_at "rq"
    refine ⟨_, _, rfl, rfl, by rw [List.length_map, List.length_map]; lia, nth_ns (k := 6) rfl (by lia), ?_⟩
    repeat walk_at "rq"
    refine BinOk.fdivS (by decide) (by decide) ?_
    repeat walk_at "rq"
    refine CallOk.lenList (by rw [List.length_map, dl]; lia) ?_
    rw [List.length_map, dl]
    repeat walk_at "rq"
    rw [show ((H.getD 6 0 : Nat) : Int).fdiv 100 = ((H.getD 6 0 / 100 : Nat) : Int) from fdiv_nat _ _]
    rw [show ((H.getD 6 0 / 100 : Nat) : Int) + rs.length = ((H.getD 6 0 / 100 + rs.length : Nat) : Int) by lia]
    refine Fn.callOk (beside_fn _) (C.ok.le (by decide)) ?_
    rw [besN_eq]
    repeat walk_at "rq"
    refine S1.ifC (fun τ => τ = tS H base tg u rs bB bR M [(.ofString "used", .frz (.lst (ivs (ns u)))), (.ofString "due", .frz (.lst (nls (lsort rs)))), (.ofString "page", .frz (.str (S M)))]) ?_ ?_
    · repeat walk_at "rq"
      refine ⟨_, _, rfl, rfl, by rw [List.length_map, List.length_map]; lia, nth_ns (k := 6) rfl (by lia), ?_⟩
      repeat walk_at "rq"
      refine BinOk.fdivS (by decide) (by decide) ?_
      repeat walk_at "rq"
      refine CallOk.lenList (by rw [List.length_map, dl]; lia) ?_
      rw [List.length_map, dl]
      repeat walk_at "rq"
      rw [show ((H.getD 6 0 : Nat) : Int).fdiv 1600 = ((H.getD 6 0 / 1600 : Nat) : Int) from fdiv_nat _ _]
      have e4 : (((H.getD 6 0 / 1600 : Nat) : Int) + rs.length).fmod 4 = (((H.getD 6 0 / 1600 + rs.length) % 4 : Nat) : Int) := fmod_nat (H.getD 6 0 / 1600 + rs.length) 4
      rw [e4]
      have e16 : H.getD 6 0 / 100 / 16 = H.getD 6 0 / 1600 := Nat.div_div_eq_div_mul _ _ _
      refine ifQ (fun q1 => ?_) (fun q1 => ?_)
      · have hq : ¬ ((H.getD 6 0 / 1600 + rs.length) % 4 = 0) := fun e => by rw [e] at q1; exact absurd q1 (by decide)
        repeat walk_at "rq"
        refine ⟨_, rfl, ?_⟩
        refine Le.cons rfl (Le.cons rfl (Le.cons rfl (Le.cons rfl (Le.cons rfl (Le.cons rfl (Le.cons rfl (Le.cons rfl (Le.cons rfl (Le.cons rfl (Le.cons ?_ (Le.nil _)))))))))))
        · show some (LV.frz _) = some (LV.frz _)
          rw [← hM]
          unfold mailM tailM
          rw [e16, if_neg hq, show (2 + (rs.length : Int)).toNat = 2 + rs.length by lia]
          simp only [List.append_assoc]
        simp only [List.length_append, List.length_replicate, List.length_singleton, List.length_cons, List.length_nil]
        lia
      · have hq : (H.getD 6 0 / 1600 + rs.length) % 4 = 0 := by
          have := bne_eq_false_iff_eq.mp q1; lia
        repeat walk_at "rq"
        refine ⟨_, rfl, ?_⟩
        refine Le.cons rfl (Le.cons rfl (Le.cons rfl (Le.cons rfl (Le.cons rfl (Le.cons rfl (Le.cons rfl (Le.cons rfl (Le.cons rfl (Le.cons rfl (Le.cons ?_ (Le.nil _)))))))))))
        show some (LV.frz _) = some (LV.frz _)
        rw [← hM]
        unfold mailM tailM
        rw [e16, if_pos hq, show (2 + (rs.length : Int)).toNat = 2 + rs.length by lia]
        simp only [List.append_assoc, List.append_nil]
    · rintro τ rfl
      unfold tS
      walk_at "rq"
      walk_at "rr"
      repeat walk_at "rr"
      refine CallOk.sortedNls (by lia) (by have := C.ok.units; lia) ?_
      repeat walk_at "rr"
      refine CmpOk.neNum C.ok (num_nls _) (num_nls _) (by have := dep_nls (lsort rs); lia) fun q hq => ?_
      obtain rfl : q = false := hq.mpr rfl
      repeat walk_at "rr"
      refine CmpOk.neStr ?_
      rw [show (S M != S M) = false by simp]
      repeat walk_at "rr"
      refine ⟨Nat.le_of_ble_eq_true rfl, fun bT => ?_⟩
      repeat walk_at "rr"
      refine S1.forRangeC C.ok (C.kind rfl) (C.loc rfl) ?_ rfl (fun _ => rfl)
      repeat walk_at "rr"
      refine ⟨5, fun i τ => ∃ bT, τ = (.ofString "base", .frz (.int base)) :: (.ofString "targets", .frz (wTg tg)) :: (.ofString "books", .own bB (ivs (ns (tg.map (bookN base))))) ::
        (.ofString "level", .frz (.lst (ivs (ns (u.map (· + 1)))))) :: (.ofString "used", .frz (.lst (ivs (ns u)))) :: (.ofString "towards", .own bT (ivs (ns ((List.range i).map (nextSite tg u))))) :: [], rfl, by decide, ⟨_, ⟨bT, rfl⟩, Le.cons rfl (Le.cons rfl (Le.cons rfl (Le.cons rfl (Le.cons rfl (Le.cons rfl (Le.nil _))))))⟩, ?_, ?_⟩
      · rintro s τ hs ⟨bT, rfl⟩
        have tlen := O.ok.len
        have ht5 : ∀ t ∈ tg.getD s [], t < 5 := getD_all O.ok.in5 (by lia) []
        have hl3 : (tg.getD s []).length ≤ 3 := getD_all O.ok.few (by lia) []
        have hu : u.getD s 0 ≤ (tg.getD s []).length := U.le s hs
        have en : nextSite tg u s = if u.getD s 0 < (tg.getD s []).length then (tg.getD s []).getD (u.getD s 0) 0 else 5 := rfl
        have eb : (tg.map (bookN base)).getD s 0 = bookN base (tg.getD s []) := by
          simp [List.getD_eq_getElem?_getD, List.getElem?_eq_getElem (show s < tg.length by lia)]
        repeat walk_at "rr"
        refine ⟨_, _, rfl, rfl, by rw [List.length_map, List.length_map]; lia, nth_ns rfl (by lia), ?_⟩
        rw [vget s hs]
        repeat walk_at "rr"
        rw [show (((u.getD s 0 + 1 : Nat) : Int) - 1) = ((u.getD s 0 : Nat) : Int) by lia]
        refine ⟨_, _, rfl, rfl, by rw [List.length_map]; lia, nth_tg rfl (by lia), ?_⟩
        generalize hts : tg.getD s [] = ts at ht5 hl3 hu en eb
        generalize u.getD s 0 = k at hu en
        repeat walk_at "rr"
        refine CallOk.lenList (by rw [List.length_map, List.length_map]; lia) ?_
        rw [List.length_map, List.length_map]
        repeat walk_at "rr"
        rw [show ((ts.length : Int) - (k : Int)) = ((ts.length - k : Nat) : Int) by lia]
        refine S1.assignComp (C.loc rfl) (C.kind rfl) (C.comp (by rfl)) ?_ (C.swap fun _ _ _ _ _ => rfl)
        refine SrcV.ns fun m => ?_
        repeat walk_at "rr"
        refine ⟨_, _, rfl, rfl, by rw [List.length_map]; lia, nth_tg rfl (by lia), ?_⟩
        refine ⟨ts, by rw [hts], by lia, fun i => .int ((33 + base + ts.getD i 0 : Nat) : Int), fun m i CC hi => ?_, fun bD => ?_⟩
        · repeat walk_at "rr"
          simp only [V.int.injEq]; lia
        rw [gen_ns (g := fun t => 33 + base + t)]
        have fl : (figs base ts).length = ts.length := by simp
        have flt := figs_lt b21 ht5
        repeat walk_at "rr"
        refine EVO.toEV ?_
        repeat walk_at "rr"
        refine ⟨Nat.le_of_ble_eq_true rfl, ?_⟩
        refine EV.sliceE ?_ (fun _ _ => ⟨_, rfl⟩)
        repeat walk_at "rr"
        refine ⟨_, rfl, ?_⟩
        repeat walk_at "rr"
        refine ⟨rfl, by rw [vlen, sizeLine_eq, fl]; lia, by decide, ?_⟩
        rw [slcN_from]
        repeat walk_at "rr"
        refine ⟨_, rfl, ?_⟩
        refine ⟨_, rfl, by rw [vlen, List.length_drop, sizeLine_eq, fl]; lia, by decide, ?_⟩
        rw [slcN_rev]
        refine BinOk.addLst (by rw [vlen, List.length_reverse, List.length_drop, fl]; simp; lia) ?_
        rw [show [V.int 13] ++ ivs (ns ((figs base ts).drop k).reverse) = ivs (ns (13 :: ((figs base ts).drop k).reverse)) from rfl]
        repeat walk_at "rr"
        have dl1 : (13 :: ((figs base ts).drop k).reverse).length ≤ 4 := by rw [List.length_cons, List.length_reverse, List.length_drop, fl]; lia
        have dlt : ∀ d ∈ 13 :: ((figs base ts).drop k).reverse, d < 2 ^ 60 := fun d hd => by
          rcases List.mem_cons.mp hd with h | h
          · lia
          · have := flt d (List.mem_of_mem_drop (List.mem_reverse.mp h)); lia
        have dlt2 : ∀ d ∈ ((figs base ts).take k).reverse, d < 2 ^ 60 := fun d hd => by
          have := flt d (List.mem_of_mem_take (List.mem_reverse.mp hd)); lia
        refine Fn.callOk (digits2int_fn _ 6 (by decide) dlt (by lia)) (C.ok.le (by decide)) ?_
        rw [show valT 6 (13 :: ((figs base ts).drop k).reverse) = backN base ts k from rfl]
        have cut := book_cut b21 ht5 hu
        have top := back_top b21 ht5 hu
        have blt := book_lt b21 ht5 hl3
        have bpos : 13 ≤ bookN base ts := Nat.le_add_right ..
        have kpos : 13 ≤ backN base ts k := Nat.le_add_right ..
        have klt : backN base ts k ≤ bookN base ts := by rw [← cut.2]; exact Nat.mod_le _ _
        have p4 : 64 ^ (ts.length - k + 1) ≤ 64 ^ 4 := Nat.pow_le_pow_right (by decide) (by lia)
        have p3 : 64 ^ (ts.length - k) ≤ 64 ^ 3 := Nat.pow_le_pow_right (by decide) (by lia)
        have pp4 : 0 < 64 ^ (ts.length - k + 1) := Nat.pow_pos (by decide)
        have pp3 : 0 < 64 ^ (ts.length - k) := Nat.pow_pos (by decide)
        repeat walk_at "rr"
        refine ⟨_, _, rfl, rfl, by rw [vlen, List.length_map]; lia, nth_ns rfl (by rw [List.length_map]; lia), ?_⟩
        rw [eb]
        repeat walk_at "rr"
        refine BinOk.powS (by lia) (by lia) (by decide) ?_
        rw [show (((ts.length - k : Nat) : Int) + 1) = ((ts.length - k + 1 : Nat) : Int) by lia, pow64]
        repeat walk_at "rr"
        refine Fn.callOk (divmod_fn _ _ (by lia) pp4 (by lia) (by lia)) (C.ok.le (by decide)) ?_
        rw [cut.1, cut.2]
        repeat walk_at "rr"
        refine EV.sliceE ?_ (fun _ _ => ⟨_, rfl⟩)
        repeat walk_at "rr"
        refine ⟨_, rfl, ?_⟩
        repeat walk_at "rr"
        refine ⟨rfl, by rw [vlen, sizeLine_eq, fl]; lia, by decide, ?_⟩
        rw [slcN_to]
        repeat walk_at "rr"
        refine ⟨_, rfl, ?_⟩
        refine ⟨_, rfl, by rw [vlen, List.length_take, sizeLine_eq, fl]; lia, by decide, ?_⟩
        rw [slcN_rev]
        repeat walk_at "rr"
        refine Fn.callOk (digits2int_fn _ 6 (by decide) dlt2 (by rw [List.length_reverse, List.length_take, fl]; lia)) (C.ok.le (by decide)) ?_
        repeat walk_at "rr"
        refine ⟨Nat.le_of_ble_eq_true rfl, ?_⟩
        refine CmpOk.neNum C.ok (num_tup2 _ _) (num_tup2 _ _) (by have := dep_tup2 (valT 6 ((figs base ts).take k).reverse) (backN base ts k); lia) fun q hq => ?_
        obtain rfl : q = false := hq.mpr rfl
        repeat walk_at "rr"
        refine EV.itemT ?_
        repeat walk_at "rr"
        refine BinOk.powS (by lia) (by lia) (by decide) ?_
        rw [pow64]
        repeat walk_at "rr"
        refine Fn.callOk (divmod_fn _ _ (by lia) pp3 (by lia) (by lia)) (C.ok.le (by decide)) ?_
        rw [top]
        repeat walk_at "rr"
        refine ⟨_, _, _, rfl, rfl, by decide, by show 2 < 2 ^ 62; decide, rfl, ?_⟩
        have tw : (List.range (s + 1)).map (nextSite tg u) = (List.range s).map (nextSite tg u) ++ [nextSite tg u s] := by rw [List.range_succ, List.map_append]; rfl
        by_cases hk : k < ts.length
        · rw [if_pos hk] at en ⊢
          repeat walk_at "rr"
          rw [show ((((33 + base + ts.getD k 0 : Nat) : Int)) == 13) = false by rw [beq_eq_false_iff_ne]; lia]
          repeat walk_at "rr"
          refine ⟨_, _, rfl, rfl, by rw [vlen, List.length_map, List.length_range, sizeLine_eq]; lia, ?_⟩
          repeat walk_at "rr"
          refine ⟨_, ⟨bT, rfl⟩, Le.cons rfl (Le.cons rfl (Le.cons rfl (Le.cons rfl (Le.cons rfl (Le.cons ?_ (Le.nil _))))))⟩
          show some (LV.own bT _) = some (LV.own bT _)
          rw [tw, en, show (((33 + base + ts.getD k 0 : Nat) : Int) - 33 - base) = ((ts.getD k 0 : Nat) : Int) by lia]
          simp [ns, ivs]
        · rw [if_neg hk] at en ⊢
          repeat walk_at "rr"
          rw [show ((((13 : Nat) : Int)) == 13) = true from rfl]
          repeat walk_at "rr"
          refine ⟨_, _, rfl, rfl, by rw [vlen, List.length_map, List.length_range, sizeLine_eq]; lia, ?_⟩
          repeat walk_at "rr"
          refine ⟨_, ⟨bT, rfl⟩, Le.cons rfl (Le.cons rfl (Le.cons rfl (Le.cons rfl (Le.cons rfl (Le.cons ?_ (Le.nil _))))))⟩
          show some (LV.own bT _) = some (LV.own bT _)
          rw [tw, en]
          simp [ns, ivs]
      · rintro τ ⟨bT, rfl⟩
        repeat walk_at "rr"
        refine EV.cmp ?_ (by with_unfolding_all rfl)
        repeat walk_at "rr"
        refine EVO.toEV (EVO.comp C.pin (C.comp (by rfl)) ?_)
        refine SrcV.range C.ok (ns_range _) (C.kind rfl) fun m => ?_
        repeat walk_at "rr"
        refine ⟨5, rfl, by decide, fun i => .int ((nextSite tg u i : Nat) : Int), fun m i CC hi => ?_, ?_⟩
        · have tlen := O.ok.len
          have hl3 : (tg.getD i []).length ≤ 3 := getD_all O.ok.few (by lia) []
          have en : nextSite tg u i = if u.getD i 0 < (tg.getD i []).length then (tg.getD i []).getD (u.getD i 0) 0 else 5 := rfl
          repeat walk_at "rr"
          refine ⟨_, _, rfl, rfl, by rw [List.length_map, List.length_map]; lia, nth_ns rfl (by lia), ?_⟩
          repeat walk_at "rr"
          refine ⟨_, _, rfl, rfl, by rw [List.length_map]; lia, nth_tg rfl (by lia), ?_⟩
          repeat walk_at "rr"
          refine CallOk.lenList (by rw [List.length_map, List.length_map]; lia) ?_
          rw [List.length_map, List.length_map]
          repeat walk_at "rr"
          refine ifD (fun q3 => ?_) (fun q3 => ?_)
          · refine EV.item ?_
            repeat walk_at "rr"
            refine ⟨_, _, rfl, rfl, by rw [List.length_map]; lia, nth_tg rfl (by lia), ?_⟩
            repeat walk_at "rr"
            refine ⟨_, _, rfl, rfl, by rw [List.length_map, List.length_map]; lia, nth_ns rfl (by lia), ?_⟩
            refine ⟨_, _, _, rfl, rfl, by rw [List.length_map, List.length_map]; lia, nth_ns rfl (by lia), ?_⟩
            show V.int _ = V.int ((nextSite tg u i : Nat) : Int)
            rw [en, if_pos (by lia)]
          · repeat walk_at "rr"
            show V.int _ = V.int ((nextSite tg u i : Nat) : Int)
            rw [en, if_neg (by lia)]; rfl
        · rw [show (List.range 5).map (fun i => V.int ((nextSite tg u i : Nat) : Int)) = ivs (ns ((List.range 5).map (nextSite tg u))) from rfl]
          refine CmpOk.eqNum C.ok (num_ivs _) (num_ivs _) (by rw [dep_lst]; lia) fun q hq => ?_
          obtain rfl : q = true := hq.mpr rfl
          rfl
    all_goals (
      simp only [List.length_append, List.length_replicate, List.length_singleton, List.length_cons, List.length_nil]
      lia)
end
section
noncomputable abbrev pkE {a0 a1 a2 a3 a4 a5 a6 : Stmt} {r : List Stmt} (_ : b187 = a0 :: a1 :: a2 :: a3 :: a4 :: a5 :: a6 :: r) : List Stmt := r
noncomputable abbrev bLoop : List Stmt := pkE rfl
theorem ST.freeze {c : Cx} {body : List Stmt} {σ : Sto} {Q : Out → Sto → Prop} (x : Str) {b : Addr} {xs : List V} (hx : sget σ x = some (.own b xs)) (h : ST c body (sput σ x (.frz (.lst xs))) Q) : ST c body σ Q := fun hid z s H E => by
  obtain ⟨z', hz, H'⟩ := H.freeze hx
  exact wpAny_mono (h hid z' s H' E) (fun fl s' x => x.from hz ⟨rfl, rfl, rfl⟩) fun _ _ e => e
noncomputable def lS (H : List Nat) (base : Nat) (tg : List (List Nat)) (bB bA bR : Addr) (lev bare : List Nat) (rs : List (List Nat)) (M : List Nat) : Sto :=
  [(.ofString "heaps", .frz (.lst (ivs (ns H)))), (.ofString "base", .frz (.int base)), (.ofString "letters", .frz (ltr (lettersOf base))), (.ofString "targets", .frz (wTg tg)), (.ofString "books", .own bB (ivs (ns (tg.map (bookN base))))),
    (.ofString "addresses", .own bA (nls tg)), (.ofString "marks", .frz (.lst (ivs (ns (marksOf base))))), (.ofString "level", .frz (.lst (ivs (ns lev)))), (.ofString "bare", .frz (.lst (ivs (ns bare)))), (.ofString "broken", .own bR (nls rs)), (.ofString "text", .frz (.str (S M)))]
structure LoopOk (tg : List (List Nat)) (t : Nat) (rs : List (List Nat)) (u lev bare : List Nat) : Prop where
  pops : Pops tg [0, 0, 0, 0, 0] rs u
  len : rs.length = t
  ll : lev.length = 5
  l10 : ∀ x ∈ lev, x ≤ 10
  up : upTo lev bare = u.map (· + 1)
theorem zero_uok (tg : List (List Nat)) : UOk tg [0, 0, 0, 0, 0] := ⟨rfl, by
  refine lt5 ?_ ?_ ?_ ?_ ?_ <;> exact Nat.zero_le _⟩
theorem up_get {u : List Nat} (hl : u.length = 5) {s : Nat} (hs : s < 5) : (u.map (· + 1)).getD s 0 = u.getD s 0 + 1 := by
  simp [List.getD_eq_getElem?_getD, List.getElem?_eq_getElem (show s < u.length by lia)]
theorem loop_ok {c : Cx} (C : c.Is s187 23) (hst : c.still = false) {H : List Nat} {base : Nat} {tg : List (List Nat)} (O : LawOk H base tg) (bB bA : Addr) :
    ST c bLoop [(.ofString "heaps", .frz (.lst (ivs (ns H)))), (.ofString "base", .frz (.int base)), (.ofString "letters", .frz (ltr (lettersOf base))), (.ofString "targets", .frz (wTg tg)), (.ofString "books", .own bB (ivs (ns (tg.map (bookN base))))),
      (.ofString "addresses", .own bA (nls tg))] (fun o _ => o = .ret (.bool true)) := by
  have b21 := O.b21
  have hlen := O.len
  have tlen := O.ok.len
  refine ST.cons ?_
  refine S1.assignComp (C.loc rfl) (C.kind rfl) (C.comp (by rfl)) ?_ (C.swap fun _ _ _ _ _ => rfl)
  refine SrcV.range C.ok (ns_range _) (C.kind rfl) fun m => ?_
  repeat walk_at "rr"
  refine ⟨5, rfl, by decide, fun i => .int ((markOf base i : Nat) : Int), fun m i CC hi => ?_, fun bm => ?_⟩
  · repeat walk_at "rr"
    refine EVO.toEV ?_
    repeat walk_at "rr"
    refine ⟨Nat.le_of_ble_eq_true rfl, ?_⟩
    rw [show [V.int 13, V.int (33 + (base : Int) + i)] = ivs (ns [13, 33 + base + i]) from by simp [ivs, ns]]
    repeat walk_at "rr"
    refine Fn.callOk (digits2int_fn [13, 33 + base + i] 6 (by decide) (by simp; lia) (by simp)) (C.okp.le (by decide)) ?_
    rfl
  refine SQ.nx ?_
  refine ST.freeze (.ofString "marks") rfl ?_
  rw [show (List.range 5).map (fun i => V.int ((markOf base i : Nat) : Int)) = ivs (ns (marksOf base)) from rfl]
  refine ST.cons ?_
  refine S1.assign (C.cel rfl) (EVO.toEV (EVO.mulList ?_)) rfl
  refine EVO.toEV ?_
  repeat walk_at "rr"
  refine ⟨Nat.le_of_ble_eq_true rfl, ?_⟩
  repeat walk_at "rr"
  refine ⟨_, _, rfl, rfl, by simp, by decide, by decide, by decide, ?_⟩
  refine SQ.nx ?_
  refine ST.cons ?_
  refine S1.assign (C.loc rfl) (EVO.toEV ?_) rfl
  repeat walk_at "rr"
  refine ⟨Nat.le_of_ble_eq_true rfl, ?_⟩
  repeat walk_at "rr"
  refine ⟨Nat.le_of_ble_eq_true rfl, fun bR => ?_⟩
  repeat walk_at "rr"
  refine S1.forRangeC C.ok (C.kind rfl) (C.loc rfl) ?_ rfl (fun _ => rfl)
  repeat walk_at "rr"
  refine ⟨10, fun t τ => ∃ rs u lev bare M bR, τ = lS H base tg bB bA bR lev bare rs M ∧ LoopOk tg t rs u lev bare, rfl, by decide, ⟨_, ⟨[], [0, 0, 0, 0, 0], [0, 0, 0, 0, 0], [0, 1, 2, 3, 4], [], bR, rfl, ⟨.nil, rfl, rfl, by decide, by decide⟩⟩, ?_⟩, ?_, ?_⟩
  · exact Le.cons rfl (Le.cons rfl (Le.cons rfl (Le.cons rfl (Le.cons rfl (Le.cons rfl (Le.cons rfl (Le.cons rfl (Le.cons rfl (Le.cons rfl (Le.cons rfl (Le.nil _)))))))))))
  · rintro t τ ht ⟨rs, u, lev, bare, M, bR, rfl, L⟩
    have U := L.pops.uok (zero_uok tg)
    have few := L.pops.few O.self (zero_uok tg)
    have p15 := pot_start O.ok
    have ulen := U.len
    have u3 : ∀ s, s < 5 → u.getD s 0 ≤ 3 := fun s hs => by
      have := U.le s hs
      have : lenT tg s ≤ 3 := getD_all O.ok.few (by rw [O.ok.len]; exact hs) []
      lia
    have v10 : ∀ x ∈ u.map (· + 1), x ≤ 10 := fun x hx => by
      obtain ⟨y, hy, rfl⟩ := List.mem_map.mp hx
      obtain ⟨i, hi, rfl⟩ := List.getElem_of_mem hy
      have := u3 i (by lia)
      rw [List.getD_eq_getElem?_getD, List.getElem?_eq_getElem hi] at this
      have : u[i] ≤ 3 := this
      lia
    have vl : (u.map (· + 1)).length = 5 := by simpa using ulen
    unfold lS
    repeat walk_at "rr"
    refine ⟨_, _, rfl, rfl, by rw [vlen]; lia, nth_ns (k := 6) rfl (by lia), ?_⟩
    repeat walk_at "rr"
    refine BinOk.fdivS (by decide) (by decide) ?_
    repeat walk_at "rr"
    rw [show ((H.getD 6 0 : Nat) : Int).fdiv 100 = ((H.getD 6 0 / 100 : Nat) : Int) from fdiv_nat _ _]
    refine Fn.callOk (posted_fn lev bare (lettersOf base) t (H.getD 6 0 / 100) L.ll L.l10 (by simp) (by lia)) (C.ok.le (by decide)) ?_
    rw [show (quoteT (postT lev bare (lettersOf base) t (H.getD 6 0 / 100))).filter (fun x => !b1 x) = mailM (upTo lev bare) (lettersOf base) t (H.getD 6 0 / 100) from mail_out (lettersOk b21) t _, L.up]
    have ml := mail_len (letters := lettersOf base) vl v10 t (H.getD 6 0 / 100) (by lia)
    repeat walk_at "rr"
    refine FnT.callOk (levels_fn _ (marksOf base) (by lia) (by simp) (fun x hx => by
      obtain ⟨s, hs, rfl⟩ := List.mem_map.mp hx
      have := List.mem_range.mp hs
      rw [markOf_eq]; lia)) (C.ok.le (by decide)) hst C.pin ?_
    rw [levels_out b21 vl]
    repeat walk_at "rr"
    refine S1.assignComp (C.loc rfl) (C.kind rfl) (C.comp (by rfl)) ?_ (C.swap fun _ _ _ _ _ => rfl)
    refine SrcV.range C.ok (ns_range _) (C.kind rfl) fun m => ?_
    repeat walk_at "rr"
    refine ⟨5, rfl, by decide, fun i => .int ((nextSite tg u i : Nat) : Int), fun m i CC hi => ?_, fun bL => ?_⟩
    · have hl3 : (tg.getD i []).length ≤ 3 := getD_all O.ok.few (by lia) []
      have en : nextSite tg u i = if u.getD i 0 < (tg.getD i []).length then (tg.getD i []).getD (u.getD i 0) 0 else 5 := rfl
      have ug := up_get ulen hi
      repeat walk_at "rr"
      refine ⟨_, _, rfl, rfl, by rw [vlen]; lia, nth_ns rfl (by lia), ?_⟩
      rw [ug]
      repeat walk_at "rr"
      refine ⟨_, _, rfl, rfl, by rw [List.length_map]; lia, nth_tg rfl (by lia), ?_⟩
      repeat walk_at "rr"
      refine CallOk.lenList (by rw [vlen]; lia) ?_
      rw [vlen]
      repeat walk_at "rr"
      refine ifD (fun q3 => ?_) (fun q3 => ?_)
      · refine EV.item ?_
        repeat walk_at "rr"
        refine ⟨_, _, rfl, rfl, by rw [List.length_map]; lia, nth_tg rfl (by lia), ?_⟩
        repeat walk_at "rr"
        refine ⟨_, _, rfl, rfl, by rw [vlen]; lia, nth_ns rfl (by lia), ?_⟩
        rw [ug]
        repeat walk_at "rr"
        refine ⟨_, _, _, rfl, rfl, by rw [vlen]; lia, nth_ns (k := u.getD i 0) (by lia) (by lia), ?_⟩
        show V.int _ = V.int ((nextSite tg u i : Nat) : Int)
        rw [en, if_pos (by lia)]
      · repeat walk_at "rr"
        show V.int _ = V.int ((nextSite tg u i : Nat) : Int)
        rw [en, if_neg (by lia)]; rfl
    rw [show (List.range 5).map (fun i => V.int ((nextSite tg u i : Nat) : Int)) = ivs (ns (leadsOf tg u)) from rfl]
    repeat walk_at "rr"
    refine Fn.callOk (rings_fn (leadsOf tg u) (by simp [leadsOf]) (fun x hx => by
      obtain ⟨s, hs, rfl⟩ := List.mem_map.mp hx
      exact nextSite_le O.ok u (List.mem_range.mp hs))) (C.ok.le (by decide)) ?_
    have rlen : (rings (leadsOf tg u)).length ≤ 5 := ringsTo_len (leadsOf tg u) 5
    have rcyc : ∀ C ∈ rings (leadsOf tg u), Cyc tg u C := fun C hC => rings_cyc O.ok hC
    have rnone := rings_none O.ok (u := u)
    repeat walk_at "rr"
    refine EVO.toEV ?_
    repeat walk_at "rr"
    refine ⟨Nat.le_of_ble_eq_true rfl, ?_⟩
    refine CmpOk.eqNum C.ok (num_nls _) (num_nls []) (by have := dep_nls (rings (leadsOf tg u)); lia) fun q hq => ?_
    generalize hR : rings (leadsOf tg u) = R at rlen rcyc rnone hq
    have hq' : q = true ↔ R = [] := by
      rw [hq]
      constructor
      · intro h
        have : nls R = [] := V.lst.inj h
        cases R with
        | nil => rfl
        | cons a r => exact absurd this (by simp [nls])
      · intro h; rw [h]; rfl
    refine ifQ (fun q1 => ?_) (fun q1 => ?_)
    · have nc := rnone (hq'.mp q1)
      have run := L.pops.end_ nc
      refine ST.cons (S1.brk ?_)
      refine SQ.bk ?_
      refine SQ.bk ?_
      refine LE.bk ?_
      refine SQ.nx ?_
      have hl := L.len
      subst hl
      refine (tail_ok C O run U (by lia) bB bR).weaken ?_
      unfold tS
      exact Le.cons rfl (Le.cons rfl (Le.cons rfl (Le.cons rfl (Le.cons rfl (Le.cons rfl (Le.cons rfl (Le.cons rfl (Le.nil _))))))))
    · have hne : R ≠ [] := fun h => by have := hq'.mpr h; rw [q1] at this; cases this
      have hpos : 0 < R.length := List.length_pos_iff.mpr hne
      repeat walk_at "rr"
      refine ⟨_, _, rfl, rfl, by rw [vlen]; lia, nth_ns (k := 5) rfl (by lia), ?_⟩
      repeat walk_at "rr"
      have e1000 : ((H.getD 5 0 : Nat) : Int).fmod 1000 = ((H.getD 5 0 % 1000 : Nat) : Int) := fmod_nat _ _
      rw [e1000]
      refine BinOk.rsh (by lia) ?_
      have esh : ((H.getD 5 0 % 1000 : Nat) : Int).fdiv (2 ^ ((t : Int)).toNat) = ((H.getD 5 0 % 1000 / 2 ^ t : Nat) : Int) := by
        rw [Int.toNat_natCast, show ((2 : Int) ^ t) = ((2 ^ t : Nat) : Int) from (Int.natCast_pow 2 t).symm]; exact fdiv_nat _ _
      rw [esh]
      repeat walk_at "rr"
      refine CallOk.lenList (by rw [List.length_map]; lia) ?_
      rw [List.length_map]
      repeat walk_at "rr"
      refine BinOk.mod (by lia) ?_
      have hm : H.getD 5 0 % 1000 / 2 ^ t % R.length < R.length := Nat.mod_lt _ hpos
      rw [show ((H.getD 5 0 % 1000 / 2 ^ t : Nat) : Int).fmod ((R.length : Nat) : Int) = ((H.getD 5 0 % 1000 / 2 ^ t % R.length : Nat) : Int) from fmod_nat _ _]
      generalize H.getD 5 0 % 1000 / 2 ^ t % R.length = j at hm
      refine ⟨_, _, rfl, rfl, by first | lia | (rw [List.length_map]; lia), nth_tg rfl hm, ?_⟩
      have cyc : Cyc tg u (R.getD j []) := rcyc _ (by
        rw [List.getD_eq_getElem?_getD, List.getElem?_eq_getElem hm]; exact List.getElem_mem _)
      generalize R.getD j [] = B at cyc
      have B5 := nodup_len 5 _ cyc.nd cyc.lt
      have blt := cyc.lt
      repeat walk_at "rr"
      refine EVO.toEV (EVO.comp C.pin (C.comp (by rfl)) ?_)
      refine SrcV.ns fun m => ?_
      repeat walk_at "rr"
      refine ⟨B, rfl, by lia, fun i => .int ((4 * B.getD i 0 + u.getD (B.getD i 0) 0 + 1 : Nat) : Int), fun m i CC hi => ?_, ?_⟩
      · have r5 := getD_all blt hi 0
        have ug := up_get ulen r5
        repeat walk_at "rr"
        refine BinOk.mulL (by decide) ?_
        repeat walk_at "rr"
        refine ⟨_, _, rfl, rfl, by rw [vlen]; lia, nth_ns rfl (by lia), ?_⟩
        rw [ug]
        repeat walk_at "rr"
        simp only [V.int.injEq]; lia
      rw [gen_ns (g := fun one => 4 * one + u.getD one 0 + 1)]
      repeat walk_at "rr"
      refine CallOk.sortedNs (by rw [List.length_map]; lia) ?_
      refine ⟨_, _, rfl, rfl, by rw [List.length_map, sizeLine_eq]; have := L.len; lia, ?_⟩
      repeat walk_at "rr"
      refine ⟨_, ⟨rs ++ [ringRow u B], bump u B, u.map (· + 1), B, mailM (u.map (· + 1)) (lettersOf base) t (H.getD 6 0 / 100), bR, rfl, ⟨.snoc L.pops cyc, by rw [List.length_append, L.len]; rfl, vl, v10, ?_⟩⟩, ?_⟩
      · refine ext_getD (by simp [upTo, bump_len, ulen]) fun s hs => ?_
        have hs5 : s < 5 := by simpa [upTo] using hs
        rw [upTo_get _ _ hs5, up_get ulen hs5, up_get (by rw [bump_len, ulen]) hs5, bump_cyc ulen cyc]
        lia
      · refine Le.cons rfl (Le.cons rfl (Le.cons rfl (Le.cons rfl (Le.cons rfl (Le.cons rfl (Le.cons rfl (Le.cons rfl (Le.cons rfl (Le.cons ?_ (Le.cons rfl (Le.nil _)))))))))))
        show some (LV.own bR _) = some (LV.own bR _)
        simp [nls, ringRow]
  · rintro τ ⟨rs, u, lev, bare, M, bR, rfl, L⟩
    have few := L.pops.few O.self (zero_uok tg)
    have p15 := pot_start O.ok
    have := L.len
    lia
end
section
noncomputable def heapN (script : List Int) (i : Nat) : Nat := (heapI script i).toNat
noncomputable def HN (script : List Int) : List Nat := (List.range 7).map (heapN script)
theorem HN_get (script : List Int) {i : Nat} (h : i < 7) : (HN script).getD i 0 = heapN script i := by simp [HN, List.getD_eq_getElem?_getD, h]
theorem HN_eq (script : List Int) : (List.range 7).map (heapI script) = ns (HN script) := by
  unfold HN ns
  rw [List.map_map]
  refine List.map_congr_left fun i _ => ?_
  have := fmod_lt (firstsI.getD i 0 + (slc script (some (i : Int)) none (some 7)).sum) (k := 10 ^ 12) (by decide)
  show heapI script i = ((heapI script i).toNat : Int)
  unfold heapI at *
  lia
theorem tgt_rng (site heap : Int) : ∀ t ∈ tgt site heap, 0 ≤ t ∧ t < 5 := fun t ht => by
  obtain ⟨i, _, rfl⟩ := List.mem_map.mp ht
  exact fmod_lt _ (by decide)
theorem tgt_self (s : Nat) (hs : s < 5) (heap : Int) : (s : Int) ∉ tgt s heap := fun h => by
  obtain ⟨i, _, e⟩ := List.mem_map.mp h
  unfold tgtI at e
  have h4 := fmod_lt ((heap.fdiv (10 ^ (i + 1))).fmod 10) (k := 4) (by decide)
  generalize ((heap.fdiv (10 ^ (i + 1))).fmod 10).fmod 4 = x at e h4
  rw [Int.fmod_eq_emod_of_nonneg _ (by decide)] at e
  lia
theorem tgt_len (site heap : Int) : (tgt site heap).length ≤ 3 := by
  have := fmod_lt (heap.fmod 10) (k := 3) (by decide)
  unfold tgt tgtN
  rw [List.length_map, List.length_range]; lia
noncomputable def tgS (H : List Nat) (s : Nat) : List Nat := (tgt s (H.getD s 0 : Nat)).map Int.toNat
theorem tgS_eq (H : List Nat) (s : Nat) : ns (tgS H s) = tgt s (H.getD s 0 : Nat) := by
  unfold tgS ns
  rw [List.map_map]
  conv => rhs; rw [← List.map_id (tgt s (H.getD s 0 : Nat))]
  refine List.map_congr_left fun t ht => ?_
  have := tgt_rng _ _ t ht
  show ((t.toNat : Nat) : Int) = t
  lia
noncomputable def tgH (H : List Nat) : List (List Nat) := (List.range 5).map (tgS H)
theorem tgH_get (H : List Nat) {s : Nat} (h : s < 5) : (tgH H).getD s [] = tgS H s := by simp [tgH, List.getD_eq_getElem?_getD, h]
theorem tgS_rng (H : List Nat) (s : Nat) : ∀ t ∈ tgS H s, t < 5 := fun t ht => by
  obtain ⟨x, hx, rfl⟩ := List.mem_map.mp ht
  have := tgt_rng _ _ x hx
  lia
theorem tgS_len (H : List Nat) (s : Nat) : (tgS H s).length ≤ 3 := by unfold tgS; rw [List.length_map]; exact tgt_len _ _
theorem tgH_law (H : List Nat) (hl : H.length = 7) : LawOk H (H.getD 6 0 % 100 % 22) (tgH H) := by
  refine ⟨hl, rfl, ⟨by simp [tgH], fun t ht => ?_, fun t ht => ?_⟩, fun s hm => ?_⟩
  · obtain ⟨s, _, rfl⟩ := List.mem_map.mp ht; exact tgS_rng H s
  · obtain ⟨s, _, rfl⟩ := List.mem_map.mp ht; exact tgS_len H s
  · by_cases hs : s < 5
    · rw [tgH_get H hs] at hm
      refine tgt_self s hs (H.getD s 0 : Nat) ?_
      rw [← tgS_eq]
      exact List.mem_map.mpr ⟨s, hm, rfl⟩
    · rw [List.getD_eq_getElem?_getD, List.getElem?_eq_none (by simp [tgH]; lia)] at hm
      exact absurd hm (by simp)
theorem bookT_len (letters : List Nat) (ts : List Int) (heap site : Int) : (bookT letters ts heap site).length ≤ ts.length + 1 := by
  have : ∀ (l : List (List Nat)), (∀ x ∈ l, x.length = 1) → l.flatten.length = l.length := by
    intro l h
    induction l with
    | nil => rfl
    | cons x r ih => rw [List.flatten_cons, List.length_append, h x (.head _), ih fun y hy => h y (.tail _ hy), List.length_cons]; lia
  have hs : ∀ x ∈ bookSigns letters ts, x.length = 1 := fun x hx => by obtain ⟨t, _, rfl⟩ := List.mem_map.mp hx; rfl
  have hl : (bookSigns letters ts).length = ts.length := by simp [bookSigns]
  unfold bookT
  rw [this _ fun x hx => by
    simp only [List.mem_append, List.mem_singleton] at hx
    rcases hx with (h | h) | h
    · exact hs x (List.mem_of_mem_take h)
    · rw [h]; rfl
    · exact hs x (List.mem_of_mem_drop h)]
  simp only [List.length_append, List.length_take, List.length_drop, hl, List.length_cons, List.length_nil]; lia
theorem slcN_book (D : List Nat) : slc (ivs (ns D)) none (some 0) (some (-1)) = ivs (ns (D.drop 1).reverse) := by rw [slc_rev1, ← List.map_drop, ← List.map_drop, ← List.map_reverse, ← List.map_reverse]
theorem besN_le (d : Nat) : besN d ≤ 65280 := by have := bes_range d; unfold besN; lia
theorem EV.fix {c : Cx} {env : Env} {e : Expr} {σ : Sto} {W : V} {Post : V → Sto → Prop} (h : EV c env e σ fun V σ' => V = W ∧ σ' = σ) (k : Post W σ) : EV c env e σ Post := h.mono fun a σ' ⟨e1, e2⟩ => by rw [e1, e2]; exact k
theorem law_st (script : List Int) (h63 : script.length ≤ 63) {c : Cx} (C : c.Is s187 23) (hst : c.still = false) : ST c b187 (frzs [.ofString "script"] [.lst (ivs script)]) fun o _ => o = .ret (.bool true) := by
  repeat walk_at "rr"
  refine Fn.callOk (heaps_fn script h63) (C.ok.le (by decide)) ?_
  rw [HN_eq]
  have hlen : (HN script).length = 7 := by simp [HN]
  generalize HN script = H at hlen
  have O := tgH_law H hlen
  have b21 := O.b21
  generalize hb : H.getD 6 0 % 100 % 22 = base at O b21
  repeat walk_at "rr"
  refine ⟨_, _, rfl, rfl, by rw [vlen]; lia, nth_ns (k := 6) rfl (by lia), ?_⟩
  repeat walk_at "rr"
  rw [show (((H.getD 6 0 : Nat) : Int).fmod 100).fmod 22 = ((base : Nat) : Int) by rw [← hb]; rw [show ((H.getD 6 0 : Nat) : Int).fmod 100 = ((H.getD 6 0 % 100 : Nat) : Int) from fmod_nat _ _]; exact fmod_nat _ _]
  refine S1.assignComp (C.loc rfl) (C.kind rfl) (C.comp (by rfl)) ?_ (C.swap fun _ _ _ _ _ => rfl)
  refine SrcV.range C.ok (ns_range _) (C.kind rfl) fun m => ?_
  repeat walk_at "rr"
  refine ⟨5, rfl, by decide, fun i => .str (S [97 + base + i]), fun m i CC hi => ?_, fun bl => ?_⟩
  · repeat walk_at "rr"
    refine CallOk.chr (by lia) (by lia) ?_
    rw [show ((97 : Int) + base + i).toNat = 97 + base + i by lia]
  refine SQ.nx ?_
  refine ST.freeze (.ofString "letters") rfl ?_
  rw [show (List.range 5).map (fun i => V.str (S [97 + base + i])) = (lettersOf base).map (fun l => V.str (S [l])) from rfl]
  refine ST.cons ?_
  refine S1.assign (C.cel rfl) (EVO.toEV (EVO.comp C.pin (C.comp (by rfl)) ?_)) (C.swap fun _ _ _ _ _ => rfl)
  refine SrcV.range C.ok (ns_range _) (C.kind rfl) fun m => ?_
  repeat walk_at "rr"
  refine ⟨5, rfl, by decide, fun i => .lst (ivs (ns (tgS H i))), fun m i CC hi => ?_, ?_⟩
  · repeat walk_at "rr"
    refine ⟨_, _, rfl, rfl, by rw [vlen]; lia, nth_ns rfl (by lia), ?_⟩
    repeat walk_at "rr"
    refine Fn.callOk (targets_fn i (H.getD i 0 : Nat)) (C.okp.le (by decide)) ?_
    show V.lst _ = V.lst (ivs (ns (tgS H i)))
    rw [tgS_eq]
  rw [show (List.range 5).map (fun i => V.lst (ivs (ns (tgS H i)))) = nls (tgH H) from rfl]
  generalize htg : tgH H = tg at O
  have tget : ∀ s, s < 5 → tg.getD s [] = tgS H s := fun s hs => by rw [← htg]; exact tgH_get H hs
  have tlen := O.ok.len
  repeat walk_at "rr"
  refine ⟨Nat.le_of_ble_eq_true rfl, fun bB => ?_⟩
  repeat walk_at "rr"
  refine ⟨Nat.le_of_ble_eq_true rfl, fun bA => ?_⟩
  repeat walk_at "rr"
  refine S1.forRangeC C.ok (C.kind rfl) (C.loc rfl) ?_ rfl (fun _ => rfl)
  repeat walk_at "rr"
  refine ⟨5, fun i τ => ∃ bB bA, τ = [(.ofString "heaps", .frz (.lst (ivs (ns H)))), (.ofString "base", .frz (.int base)), (.ofString "letters", .frz (ltr (lettersOf base))), (.ofString "targets", .frz (wTg tg)),
    (.ofString "books", .own bB (ivs (ns ((tg.take i).map (bookN base))))), (.ofString "addresses", .own bA (nls (tg.take i)))], rfl, by decide, ⟨_, ⟨bB, bA, rfl⟩, Le.cons rfl (Le.cons rfl (Le.cons rfl (Le.cons rfl (Le.cons rfl (Le.cons rfl (Le.nil _))))))⟩, ?_, ?_⟩
  · rintro s τ hs ⟨bB, bA, rfl⟩
    have ht5 : ∀ t ∈ tg.getD s [], t < 5 := getD_all O.ok.in5 (by lia) []
    have hl3 : (tg.getD s []).length ≤ 3 := getD_all O.ok.few (by lia) []
    have ttake : tg.take (s + 1) = tg.take s ++ [tg.getD s []] := by
      rw [List.take_add_one, List.getElem?_eq_getElem (by lia)]
      simp [List.getD_eq_getElem?_getD, List.getElem?_eq_getElem (show s < tg.length by lia)]
    repeat walk_at "rr"
    refine ⟨_, _, rfl, rfl, by rw [List.length_map]; lia, nth_tg rfl (by lia), ?_⟩
    generalize tg.getD s [] = ts at ht5 hl3 ttake
    have nl : (names base ts).length = ts.length := by simp
    repeat walk_at "rr"
    refine ⟨_, _, rfl, rfl, by rw [vlen]; lia, nth_ns rfl (by lia), ?_⟩
    repeat walk_at "rr"
    refine Fn.callOk (book_fn (lettersOf base) (ns ts) (H.getD s 0 : Nat) s (by simp) (fun t ht => by
      obtain ⟨x, hx, rfl⟩ := List.mem_map.mp ht
      have := ht5 x hx; lia) (by rw [List.length_map]; lia)) (C.ok.le (by decide)) ?_
    repeat walk_at "rr"
    have bl := bookT_len (lettersOf base) (ns ts) (H.getD s 0 : Nat) s
    rw [List.length_map] at bl
    refine Fn.callOk (kept_fn _ (by lia)) (C.ok.le (by decide)) ?_
    rw [show (bookT (lettersOf base) (ns ts) (H.getD s 0 : Nat) s).filter (fun x => !b1 x) = names base ts from book_kept b21 ht5 _ _]
    repeat walk_at "rr"
    refine ⟨_, _, rfl, rfl, by rw [vlen]; lia, nth_ns (k := 6) rfl (by lia), ?_⟩
    repeat walk_at "rr"
    refine BinOk.fdivS (by decide) (by decide) ?_
    repeat walk_at "rr"
    rw [show ((H.getD 6 0 : Nat) : Int).fdiv 100 = ((H.getD 6 0 / 100 : Nat) : Int) from fdiv_nat _ _]
    rw [show (((H.getD 6 0 / 100 : Nat) : Int) + s) = ((H.getD 6 0 / 100 + s : Nat) : Int) by lia]
    refine Fn.callOk (beside_fn _) (C.ok.le (by decide)) ?_
    rw [besN_eq]
    have bes := besN_le (H.getD 6 0 / 100 + s)
    generalize besN (H.getD 6 0 / 100 + s) = code at bes
    repeat walk_at "rr"
    refine CallOk.ord ?_
    repeat walk_at "rr"
    refine CallOk.chr (by lia) (by lia) ?_
    rw [Int.toNat_natCast]
    repeat walk_at "rr"
    refine FnT.callOk (numbers_fn _ (by simp only [List.length_append, List.length_singleton, nl]; lia)) (C.ok.le (by decide)) hst C.pin ?_
    rw [num_book b21 ht5]
    generalize hrest : (if code / 64 % 2 = 1 then [code % 64 * 64 + 46] else [code % 64, 46]) = rest
    have rlen : rest.length ≤ 2 := by rw [← hrest]; split <;> simp
    have blt := book_lt b21 ht5 hl3
    have bpos : 13 ≤ bookN base ts := Nat.le_add_right ..
    have dbook := digits_book b21 ht5
    generalize hB : bookN base ts = B at blt bpos dbook
    repeat walk_at "rr"
    refine ⟨_, rfl, ?_⟩
    repeat walk_at "rr"
    refine ⟨rfl, by rw [vlen, sizeLine_eq, List.length_cons]; lia, by decide, ?_⟩
    rw [show slc (ivs (ns (B :: rest))) (some 1) none none = ivs (ns rest) from slcN_from (B :: rest) 1]
    refine EV.fix (W := .lst (ivs (ns rest))) ?hh ?kk
    case kk =>
      refine CmpOk.neNum C.ok (num_ivs _) (num_ivs _) (by rw [dep_lst]; lia) fun q hq => ?_
      obtain rfl : q = false := hq.mpr rfl
      repeat walk_at "rr"
      refine FnT.callOk (numbers_fn _ (by rw [nl]; lia)) (C.ok.le (by decide)) hst C.pin ?_
      rw [num_open _ _ (names_bit b21 ht5)]
      refine EVO.toEV ?_
      repeat walk_at "rr"
      refine ⟨Nat.le_of_ble_eq_true rfl, ?_⟩
      refine CmpOk.neNum C.ok (num_ivs []) (num_ivs []) (by rw [dep_lst]; lia) fun q hq => ?_
      obtain rfl : q = false := hq.mpr rfl
      repeat walk_at "rr"
      refine ⟨_, _, rfl, rfl, by rw [vlen, List.length_cons]; lia, nth_ns (k := 0) rfl (by simp), ?_⟩
      rw [show (B :: rest).getD 0 0 = B from rfl]
      refine ⟨_, _, rfl, rfl, by rw [vlen, List.length_map, List.length_take, sizeLine_eq]; lia, ?_⟩
      repeat walk_at "rr"
      refine EVO.toEV (EVO.comp C.pin (C.comp (by rfl)) ?_)
      refine SrcV.ns fun m => ?_
      refine EV.sliceE ?_ (fun _ _ => ⟨_, rfl⟩)
      repeat walk_at "rr"
      refine ⟨_, _, rfl, rfl, by rw [vlen, List.length_cons]; lia, nth_ns (k := 0) rfl (by simp), ?_⟩
      rw [show (B :: rest).getD 0 0 = B from rfl]
      repeat walk_at "rr"
      refine Fn.callOk (int2digits_fn B 6 (by decide) (by decide) (by lia)) (C.okp.le (by decide)) ?_
      rw [dbook]
      repeat walk_at "rr"
      refine ⟨_, rfl, ?_⟩
      repeat walk_at "rr"
      refine ⟨_, rfl, ?_⟩
      refine ⟨_, rfl, by rw [vlen, sizeLine_eq, List.length_cons, List.length_reverse, List.length_map]; lia, by decide, ?_⟩
      rw [slcN_book, show ((13 :: (figs base ts).reverse).drop 1).reverse = figs base ts by simp]
      have fl : (figs base ts).length = ts.length := by simp
      refine ⟨_, rfl, by lia, fun i => .int ((ts.getD i 0 : Nat) : Int), fun m i CC hi => ?_, ?_⟩
      · have fg := figs_get (base := base) (ts := ts) (i := i) (by lia)
        repeat walk_at "rr"
        simp only [V.int.injEq]; rw [fg]; lia
      rw [fl, show (List.range ts.length).map (fun i => V.int ((ts.getD i 0 : Nat) : Int)) = ivs (ns ts) from by
        have := gen_ns (l := ts) (g := fun x => x)
        rw [List.map_id'] at this; exact this]
      refine ⟨_, _, rfl, rfl, by rw [List.length_map, List.length_take, sizeLine_eq]; lia, ?_⟩
      repeat walk_at "rr"
      refine ⟨_, ⟨bB, bA, rfl⟩, Le.cons rfl (Le.cons rfl (Le.cons rfl (Le.cons rfl (Le.cons ?_ (Le.cons ?_ (Le.nil _))))))⟩
      · show some (LV.own bB _) = some (LV.own bB _)
        rw [ttake, List.map_append, List.map_cons, List.map_nil, hB]
        simp [ns, ivs]
      · show some (LV.own bA _) = some (LV.own bA _)
        rw [ttake]
        simp [nls]
    case hh =>
      refine EV.ifexp ?_
      repeat walk_at "rr"
      refine BinOk.fdivS (by decide) (by decide) ?_
      repeat walk_at "rr"
      rw [show ((code : Nat) : Int).fdiv 64 = ((code / 64 : Nat) : Int) from fdiv_nat _ _]
      rw [show ((code / 64 : Nat) : Int).fmod 2 = ((code / 64 % 2 : Nat) : Int) from fmod_nat _ _]
      have e64 : ((code : Nat) : Int).fmod 64 = ((code % 64 : Nat) : Int) := fmod_nat _ _
      refine ifQ (fun q1 => ?_) (fun q1 => ?_)
      · have hc : code / 64 % 2 = 1 := by have := beq_iff_eq.mp q1; lia
        rw [if_pos hc] at hrest
        refine EVO.toEV ?_
        repeat walk_at "rr"
        rw [e64]
        refine BinOk.mulR (by decide) ?_
        repeat walk_at "rr"
        refine ⟨Nat.le_of_ble_eq_true rfl, ?_, rfl⟩
        rw [← hrest]
        simp [ns, ivs]
      · have hc : ¬ (code / 64 % 2 = 1) := by
          have : ((code / 64 % 2 : Nat) : Int) ≠ 1 := by simpa using q1
          lia
        rw [if_neg hc] at hrest
        refine EVO.toEV ?_
        repeat walk_at "rr"
        rw [e64]
        refine ⟨Nat.le_of_ble_eq_true rfl, ?_, rfl⟩
        rw [← hrest]
        simp [ns, ivs]
    all_goals (simp only [List.length_append, List.length_singleton, nl]; lia)
  · rintro τ ⟨bB, bA, rfl⟩
    refine (loop_ok C hst O bB bA).weaken ?_
    rw [List.take_of_length_le (by lia)]
    exact Le.refl _
end
section
open PySem PySem.W PySem.Spec PySem.Calls PyProof.Rows
theorem well_list {P : Params} {h : Heap} {a : Addr} {xs : List PyData} (w : Well P h (.ref a) (ofPy (.list xs))) : ∃ vs, h.get? a = some (lobj vs 0) := by
  unfold ofPy at w
  cases w with
  | list h _ => exact ⟨_, h⟩
theorem law_enter {prog : Program} {w : World} {mean : ExcName → Option Value} {mg mb : Str → Option Value} {g h₁ : Heap} {L fa ad : Addr} {cd : Value} {vs : List Value} {script : List Int} {cells : List (Addr × Obj)} {s : Shared} {m cm : Str → Option Value} {E : Value → Shared → Prop}
    (X : (K w.params).In g) (T : Top topProg looseG mean mg mb g) (B : Below callerA g [] g) (F : Fr g L h₁ m) (N : News g L h₁ (cells ++ [((nat_lit 64), tabObj #[]), ((nat_lit 71), tabObj #[])])) (Y : CellsAre cm (cellsFrom (L + 1) s187.names []) cells)
    (hm : m (.ofString "script") = some (.ref ad)) (hl : g.get? ad = some (lobj vs 0)) (hI : IntsAre vs script) (h63 : script.length ≤ 63) (c1 : CodeHd g (nat_lit 68) (nat_lit 64)) (c2 : CodeHd g (nat_lit 75) (nat_lit 71)) (hs : s.heap = h₁) :
    wpAny (model prog w) (callerA.deeper (envOfC (.ofString "law") s187 L fa cd)) (execs b187 (envOfC (.ofString "law") s187 L fa cd))
      (fun f s' => f = .ret (.bool true) ∧ (∀ b o, g.get? b = some o → s'.heap.get? b = some o) ∧ Same s s' ∧ GrownAll [((nat_lit 68), (nat_lit 64)), ((nat_lit 75), (nat_lit 71))] s'.heap) E s := by
  subst hs
  let c : Cx := { prog := prog, w := w, mean := mean, mg := mg, mb := mb, dp := callerA.depth + 1, un := callerA.units + 3, gd := callerA.guards, cn := .ofString "law", cs := s187, a := fa, ccd := cd, cl := cellsFrom (L + 1) s187.names [], outer := [], A₀ := callerA, base := g, h₀ := g, L := L, pin := none, still := false, keep := [] }
  have ok : c.Ok 23 := ⟨X, T, c1, c2, rfl, by show callerA.depth + 1 + 23 < recursionLimit; decide +kernel, by show callerA.units + 3 + 8 * 23 + 8 < cLine; decide +kernel⟩
  have C : c.Is s187 23 := ⟨rfl, rfl, .inl ⟨L + 1, rfl, rfl⟩, ok⟩
  have hinj := cellsFrom_inj s187.names (L + 1) [] (fun p hp => nomatch hp) .nil
  have one : ∀ {x : Str} {l : LV}, sget (frzs [.ofString "script"] [.lst (ivs script)]) x = some l → x = .ofString "script" ∧ l = .frz (.lst (ivs script)) := fun {x l} hx => by
    have hx' : sget [(.ofString "script", .frz (.lst (ivs script)))] x = some l := hx
    unfold sget at hx'
    rw [List.lookup_cons] at hx'
    cases e : x == (.ofString "script" : Str) with
    | false => rw [e] at hx'; cases hx'
    | true => rw [e] at hx'; cases hx'; exact ⟨beq_iff_eq.mp e, rfl⟩
  have H : At c [] [] c.env (frzs [.ofString "script"] [.lst (ivs script)]) s := by
    refine ⟨⟨m, g⟩, cells ++ [((nat_lit 64), tabObj #[]), ((nat_lit 71), tabObj #[])], F, fun p hp => N p (by simpa using hp), fun p hp q hq => by simp at hq, fun p hp => absurd hp List.not_mem_nil, ⟨⟨KtsTurn.refl, B, ktsDicts_nil, fun _ => rfl⟩, rfl, rfl, rfl, fun _ e => nomatch e⟩, fun x l hx => ?_, fun x y b xs ys hx _ => ?_, fun _ => ⟨fun x cd hx => ?_, fun x y cd hx hy => pairwise_inj hinj (lookup_mem' hx) (lookup_mem' hy), fun y q us hy => ?_⟩, ⟨(fun _ h => nomatch h), ⟨#[], by simp, .inl rfl⟩, ⟨#[], by simp, .inl rfl⟩⟩⟩
    · obtain ⟨e1, e2⟩ := one hx
      rw [e1, e2]
      · refine ⟨.ref ad, .inl ⟨rfl, .inl ⟨rfl, hm⟩⟩, ?_⟩
        unfold VR
        exact ⟨ad, vs, 0, rfl, .inl hl, VRs.ofInts hI⟩
    · obtain ⟨_, e2⟩ := one hx
      cases e2
    · obtain ⟨o, ho', hd⟩ := CellsAre.get Y (lookup_mem' hx)
      exact ⟨o, _, .inl (List.mem_append_left _ ho'), hd⟩
    · obtain ⟨_, e2⟩ := one hy
      cases e2
  refine wpAny_mono (law_st script h63 C rfl [] [] s H E) (fun fl s' ⟨z', o, σ', hz, H2, hor, sm, hp⟩ => ?_) fun _ _ e => e
  subst hp
  obtain ⟨v, rfl, hv⟩ := hor
  unfold VR at hv
  subst hv
  obtain ⟨m', own', F2, N2, S12, S22, k2, _, _, _, T2⟩ := H2
  obtain ⟨_, ⟨ps, h1, _⟩, ⟨ps', h2, _⟩⟩ := T2
  exact ⟨rfl, fun b o e => F2.keep b o (k2.gok.turn.other b o e List.not_mem_nil), sm, ⟨ps, (N2 _ (List.mem_append_left _ h1)).1⟩, ⟨ps', (N2 _ (List.mem_append_left _ h2)).1⟩, trivial⟩
theorem said : OpenLaw.wellSaid PySem.Challenge.rw_uc0003_01 = true := by
  kernel_rfl
set_option maxHeartbeats 0 in
theorem main : PySem.Challenge.rw_uc0003_01.Holds := by
  w_on
  refine holds_law said fun said => ?_
  refine holds_open (q := vq) (loose := looseL) (Xt := fun s => xlAt vq [] s && recOk [] s) (XP := XL vq []) (Yf := Hook.obs (kHook K Kas K_as)) (Ya := Hook.val (kHook K Kas K_as)) (YP := Hook.says (kHook K Kas K_as)) (N := 3832) left (Hook.of (kHook K Kas K_as)) (Hook.keeps (kHook K Kas K_as)) (fun s e => xl_of s (Bool.and_eq_true_iff.mp e).1) XL.keeps (by rfl) (by rfl) (by rfl) (fun s e => recFacts_of (Bool.and_eq_true_iff.mp e).2) (by rfl) (by first | assumption | decide +kernel) (by decide +kernel) ⟨rfl, rfl, rfl, rfl, rfl, by decide +kernel⟩ ?hw ?hc
  case hw => w_witness2
  case hc =>
    w_strict k_go0
    rename Frag.In _ _ => X
    rename Top topProg _ _ _ _ _ => T
    rename Below _ _ _ _ => B
    rename Fr _ _ _ _ => F
    rename News _ _ _ _ => N
    rename CellsAre _ _ _ => Y
    rename Well _ _ _ _ => W
    rename TabsAt _ _ => T9
    rename IntsAre _ _ => I
    rename Heap.IsList (ghostOf _ _) _ _ => L
    rename_i hc1 _ _ _ _ _ _ _ _ _ _ _ _ _ _ _ _ _ _ _ _
    obtain ⟨vs', e0⟩ := well_list W
    have e1 := ghost_get T9 e0 (fun e => by cases e)
    obtain ⟨o', f1, f2, n', f3⟩ := L
    rw [e1] at f1
    cases f1
    cases f3
    refine wpAny_mono (law_enter X T B F N Y rfl e1 I ?_ ?_ ?_ rfl) ?_ (fun _ _ e => e)
    · simp at *; lia
    · assumption
    · assumption
    · rintro f s' ⟨rfl, h2, h3, h4⟩
      refine ⟨⟨.inl ⟨_, _, [], rfl, fun _ => rfl, ReadsW.bool true, ?_, fun _ => ⟨List.nodup_nil, fun _ hm => nomatch hm⟩⟩, h2, h3.2.2, ?_⟩, h4⟩
      · first | kc_post | ((refine postW_of (by wrow_shape) (w_eq_bool (w_res rfl) w_lit) ?_); w_fin)
      · exact h3.1.trans (by assumption)
end
end Mine
theorem PySem.Challenge.cw_uc0003_01_holds : PySem.Challenge.rw_uc0003_01.Holds := by
  exact Mine.main
