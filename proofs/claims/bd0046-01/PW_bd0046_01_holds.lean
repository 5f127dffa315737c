import PyProof.Rows.All
import Wide.All
import OpenK.AllK
import Wide.FinOn
import PyProof.GenRules
import PyProof.ListNew
import PyProof.ForAny
import PyProof.ZipIter
import KE.KMulAny
import Lean
import PySem.Challenge.RW_bd0046_01
set_option Elab.async false
set_option maxRecDepth 100000
section
open PySem PySem.W PyProof.Rows PySem.Calls Builtin
set_option maxHeartbeats 8000000
namespace Mine
/-! the pieces of the program's text, by projection -/
def defBody : Stmt → List Stmt
  | .FunctionDef _ _ b _ _ _ _ _ _ _ => b
  | .ClassDef _ _ _ b _ _ _ _ _ _ _ => b
  | _ => []
def defScope : Stmt → Scope
  | .FunctionDef _ _ _ _ _ _ s _ _ _ => s
  | _ => default
def defParams : Stmt → Arguments
  | .FunctionDef _ a _ _ _ _ _ _ _ _ => a
  | _ => default
def forBody : Stmt → List Stmt
  | .For _ _ b _ _ => b
  | _ => []
def topSt (n : Nat) : Stmt := PySem.Challenge.pw_bd0046_01.main.body.getD n default
def newSt : Stmt := (defBody (topSt 4)).getD 4 default
def docOf : Stmt → Str
  | .Expr (.Constant (.str x) _ _) _ => x
  | _ => ""
def docSt (s : Stmt) : Str := docOf ((defBody s).getD 0 default)
/-! what the walk reads of the objects that the text's top has made -/
noncomputable def o2 (_P : Params) : Obj := { cls := Value.none, data := Data.dict #[] }
noncomputable def o3 (P : Params) : Obj := { cls := Value.type "dict", data := Data.dict #[{ hash := PyData.keyHash P (Str.ofString "__name__"), key := Value.str (Str.ofString "__name__") 165, val := Value.str (Str.ofString "law_bd0046_01") 475 }, { hash := PyData.keyHash P (Str.ofString "__doc__"), key := Value.str (Str.ofString "__doc__") 166, val := Value.none }, { hash := PyData.keyHash P (Str.ofString "__package__"), key := Value.str (Str.ofString "__package__") 167, val := Value.none }, { hash := PyData.keyHash P (Str.ofString "__loader__"), key := Value.str (Str.ofString "__loader__") 168, val := Value.builtin "__main__.__loader__#opaque" }, { hash := PyData.keyHash P (Str.ofString "__spec__"), key := Value.str (Str.ofString "__spec__") 169, val := Value.none }, { hash := PyData.keyHash P (Str.ofString "__annotations__"), key := Value.str (Str.ofString "__annotations__") 170, val := Value.ref 6 }, { hash := PyData.keyHash P (Str.ofString "__builtins__"), key := Value.str (Str.ofString "__builtins__") 171, val := Value.ref 4 }, { hash := PyData.keyHash P (Str.ofString "__file__"), key := Value.str (Str.ofString "__file__") 173, val := Value.str (Str.ofString "/claim/cut.py") 172 }, { hash := PyData.keyHash P (Str.ofString "__cached__"), key := Value.str (Str.ofString "__cached__") 174, val := Value.none }, { hash := PyData.keyHash P (Str.ofString "_wall"), key := Value.str (Str.ofString "_wall") 193, val := Value.ref 21 }, { hash := PyData.keyHash P (Str.ofString "_tuplegetter"), key := Value.str (Str.ofString "_tuplegetter") 252, val := Value.ref 60 }, { hash := PyData.keyHash P (Str.ofString "tokenize"), key := Value.str (Str.ofString "tokenize") 294, val := Value.ref 74 }, { hash := PyData.keyHash P (Str.ofString "Token"), key := Value.str (Str.ofString "Token") 448, val := Value.ref 155 }, { hash := PyData.keyHash P (Str.ofString "ambiguous_identifier"), key := Value.str (Str.ofString "ambiguous_identifier") 474, val := Value.ref 165 }, { hash := PyData.keyHash P (Str.ofString "_law_names"), key := Value.str (Str.ofString "_law_names") 482, val := Value.ref 172 }, { hash := PyData.keyHash P (Str.ofString "_law_cell"), key := Value.str (Str.ofString "_law_cell") 490, val := Value.ref 179 }, { hash := PyData.keyHash P (Str.ofString "_law_kind"), key := Value.str (Str.ofString "_law_kind") 497, val := Value.ref 186 }, { hash := PyData.keyHash P (Str.ofString "_law_tokens"), key := Value.str (Str.ofString "_law_tokens") 512, val := Value.ref 193 }, { hash := PyData.keyHash P (Str.ofString "_law_statement"), key := Value.str (Str.ofString "_law_statement") 523, val := Value.ref 200 }, { hash := PyData.keyHash P (Str.ofString "law"), key := Value.str (Str.ofString "law") 529, val := Value.ref 205 }] 20 }
noncomputable def o73 (P : Params) : Obj := { cls := Value.type "dict", data := Data.dict #[{ hash := PyData.keyHash P (Str.ofString "__module__"), key := Value.str (Str.ofString "__module__") 260, val := Value.str (Str.ofString "pycodestyle") 194 }, { hash := PyData.keyHash P (Str.ofString "__firstlineno__"), key := Value.str (Str.ofString "__firstlineno__") 264, val := Value.int 23 263 }, { hash := PyData.keyHash P (Str.ofString "ENDMARKER"), key := Value.str (Str.ofString "ENDMARKER") 266, val := Value.int 0 265 }, { hash := PyData.keyHash P (Str.ofString "NAME"), key := Value.str (Str.ofString "NAME") 268, val := Value.int 1 267 }, { hash := PyData.keyHash P (Str.ofString "NUMBER"), key := Value.str (Str.ofString "NUMBER") 270, val := Value.int 2 269 }, { hash := PyData.keyHash P (Str.ofString "STRING"), key := Value.str (Str.ofString "STRING") 272, val := Value.int 3 271 }, { hash := PyData.keyHash P (Str.ofString "NEWLINE"), key := Value.str (Str.ofString "NEWLINE") 274, val := Value.int 4 273 }, { hash := PyData.keyHash P (Str.ofString "INDENT"), key := Value.str (Str.ofString "INDENT") 276, val := Value.int 5 275 }, { hash := PyData.keyHash P (Str.ofString "DEDENT"), key := Value.str (Str.ofString "DEDENT") 278, val := Value.int 6 277 }, { hash := PyData.keyHash P (Str.ofString "OP"), key := Value.str (Str.ofString "OP") 280, val := Value.int 54 279 }, { hash := PyData.keyHash P (Str.ofString "ERRORTOKEN"), key := Value.str (Str.ofString "ERRORTOKEN") 282, val := Value.int 60 281 }, { hash := PyData.keyHash P (Str.ofString "COMMENT"), key := Value.str (Str.ofString "COMMENT") 284, val := Value.int 61 283 }, { hash := PyData.keyHash P (Str.ofString "NL"), key := Value.str (Str.ofString "NL") 286, val := Value.int 62 285 }, { hash := PyData.keyHash P (Str.ofString "__static_attributes__"), key := Value.str (Str.ofString "__static_attributes__") 287, val := Value.ref 72 }, { hash := PyData.keyHash P (Str.ofString "__dict__"), key := Value.str (Str.ofString "__dict__") 289, val := Value.ref 75 }, { hash := PyData.keyHash P (Str.ofString "__weakref__"), key := Value.str (Str.ofString "__weakref__") 291, val := Value.ref 76 }, { hash := PyData.keyHash P (Str.ofString "__doc__"), key := Value.str (Str.ofString "__doc__") 292, val := Value.none }] 4 }
noncomputable def o74 (_P : Params) : Obj := { cls := Value.type "type", data := Data.cls { name := Str.ofString "tokenize", bases := [Value.type "object"], mro := [Value.ref 74, Value.type "object"], ns := 73, qualname := Str.ofString "tokenize" }, slots := #[none, none, some (Value.str (Str.ofString "tokenize") 253), some (Value.str (Str.ofString "tokenize") 261), some (Value.builtin "object.__new__"), some (Value.bool true)] }
noncomputable def o95 (_P : Params) : Obj := { cls := Value.type "code", data := Data.fields #[Value.str (Str.ofString "__new__") 318, Value.str (Str.ofString "Token.__new__") 319, Value.str (Str.ofString "/claim/cut.py") 320, Value.int 41 0, Value.int 6 0, Value.int 0 0, Value.int 0 0, Value.int 3 0, Value.ref 90, Value.bool true, Value.int 181 0, Value.ref 91, Value.none, Value.ref 92, Value.ref 93, Value.ref 94, Value.int 327 0, Value.int 41 0, Value.str (Str.ofString "/claim/cut.py") 328] }
noncomputable def o96 (_P : Params) : Obj := { cls := Value.type "function", data := Data.func { name := Str.ofString "__new__", qualname := Str.ofString "Token.__new__", params := defParams newSt, body := FuncBody.stmts (defBody newSt), scope := defScope newSt, globals := 3, closure := [], defaults := Value.none, kwdefaults := Value.none, doc := Value.str (docSt newSt) 329, pyModule := Value.str (Str.ofString "pycodestyle") 194, code := Value.ref 95 } }
noncomputable def o154 (P : Params) : Obj := { cls := Value.type "dict", data := Data.dict #[{ hash := PyData.keyHash P (Str.ofString "__module__"), key := Value.str (Str.ofString "__module__") 302, val := Value.str (Str.ofString "pycodestyle") 194 }, { hash := PyData.keyHash P (Str.ofString "__firstlineno__"), key := Value.str (Str.ofString "__firstlineno__") 306, val := Value.int 35 305 }, { hash := PyData.keyHash P (Str.ofString "__doc__"), key := Value.str (Str.ofString "__doc__") 308, val := Value.str (docSt (topSt 4)) 307 }, { hash := PyData.keyHash P (Str.ofString "__slots__"), key := Value.str (Str.ofString "__slots__") 310, val := Value.ref 87 }, { hash := PyData.keyHash P (Str.ofString "_fields"), key := Value.str (Str.ofString "_fields") 316, val := Value.ref 88 }, { hash := PyData.keyHash P (Str.ofString "_field_defaults"), key := Value.str (Str.ofString "_field_defaults") 317, val := Value.ref 89 }, { hash := PyData.keyHash P (Str.ofString "__new__"), key := Value.str (Str.ofString "__new__") 330, val := Value.ref 156 }, { hash := PyData.keyHash P (Str.ofString "_make"), key := Value.str (Str.ofString "_make") 352, val := Value.ref 105 }, { hash := PyData.keyHash P (Str.ofString "_replace"), key := Value.str (Str.ofString "_replace") 363, val := Value.ref 114 }, { hash := PyData.keyHash P (Str.ofString "__replace__"), key := Value.str (Str.ofString "__replace__") 364, val := Value.ref 114 }, { hash := PyData.keyHash P (Str.ofString "__repr__"), key := Value.str (Str.ofString "__repr__") 372, val := Value.ref 121 }, { hash := PyData.keyHash P (Str.ofString "_asdict"), key := Value.str (Str.ofString "_asdict") 379, val := Value.ref 128 }, { hash := PyData.keyHash P (Str.ofString "__getnewargs__"), key := Value.str (Str.ofString "__getnewargs__") 387, val := Value.ref 135 }, { hash := PyData.keyHash P (Str.ofString "__match_args__"), key := Value.str (Str.ofString "__match_args__") 393, val := Value.ref 136 }, { hash := PyData.keyHash P (Str.ofString "kind"), key := Value.str (Str.ofString "kind") 403, val := Value.ref 138 }, { hash := PyData.keyHash P (Str.ofString "string"), key := Value.str (Str.ofString "string") 413, val := Value.ref 141 }, { hash := PyData.keyHash P (Str.ofString "start"), key := Value.str (Str.ofString "start") 423, val := Value.ref 144 }, { hash := PyData.keyHash P (Str.ofString "end"), key := Value.str (Str.ofString "end") 433, val := Value.ref 147 }, { hash := PyData.keyHash P (Str.ofString "line"), key := Value.str (Str.ofString "line") 443, val := Value.ref 150 }, { hash := PyData.keyHash P (Str.ofString "__static_attributes__"), key := Value.str (Str.ofString "__static_attributes__") 444, val := Value.ref 152 }] 2 }
noncomputable def o155 (_P : Params) : Obj := { cls := Value.type "type", data := Data.cls { name := Str.ofString "Token", bases := [Value.type "tuple"], mro := [Value.ref 155, Value.type "tuple", Value.type "object"], ns := 154, qualname := Str.ofString "Token", hasDict := false }, slots := #[some (Value.ref 79), none, some (Value.str (Str.ofString "Token") 295), some (Value.str (Str.ofString "Token") 303), some Value.none, some (Value.bool false)] }
noncomputable def o156 (_P : Params) : Obj := { cls := Value.type "staticmethod", data := Data.fields #[Value.ref 96] }
noncomputable def o164 (_P : Params) : Obj := { cls := Value.type "code", data := Data.fields #[Value.str (Str.ofString "ambiguous_identifier") 449, Value.str (Str.ofString "ambiguous_identifier") 450, Value.str (Str.ofString "/claim/cut.py") 451, Value.int 80 0, Value.int 2 0, Value.int 0 0, Value.int 0 0, Value.int 35 0, Value.ref 159, Value.bool true, Value.int 181 0, Value.ref 160, Value.none, Value.ref 161, Value.ref 162, Value.ref 163, Value.int 471 0, Value.int 80 0, Value.str (Str.ofString "/claim/cut.py") 472] }
noncomputable def o165 (_P : Params) : Obj := { cls := Value.type "function", data := Data.func { name := Str.ofString "ambiguous_identifier", qualname := Str.ofString "ambiguous_identifier", params := defParams (topSt 5), body := FuncBody.stmts (defBody (topSt 5)), scope := defScope (topSt 5), globals := 3, closure := [], defaults := Value.none, kwdefaults := Value.none, doc := Value.str (docSt (topSt 5)) 473, pyModule := Value.str (Str.ofString "pycodestyle") 194, code := Value.ref 164 } }
noncomputable def o171 (_P : Params) : Obj := { cls := Value.type "code", data := Data.fields #[Value.str (Str.ofString "_law_names") 477, Value.str (Str.ofString "_law_names") 478, Value.str (Str.ofString "/claim/cut.py") 479, Value.int 162 0, Value.int 0 0, Value.int 0 0, Value.int 0 0, Value.int 3 0, Value.ref 166, Value.bool true, Value.int 181 0, Value.ref 167, Value.none, Value.ref 168, Value.ref 169, Value.ref 170, Value.int 480 0, Value.int 162 0, Value.str (Str.ofString "/claim/cut.py") 481] }
noncomputable def o172 (_P : Params) : Obj := { cls := Value.type "function", data := Data.func { name := Str.ofString "_law_names", qualname := Str.ofString "_law_names", params := defParams (topSt 7), body := FuncBody.stmts (defBody (topSt 7)), scope := defScope (topSt 7), globals := 3, closure := [], defaults := Value.none, kwdefaults := Value.none, pyModule := Value.str (Str.ofString "law_bd0046_01") 475, code := Value.ref 171 } }
noncomputable def o178 (_P : Params) : Obj := { cls := Value.type "code", data := Data.fields #[Value.str (Str.ofString "_law_cell") 483, Value.str (Str.ofString "_law_cell") 484, Value.str (Str.ofString "/claim/cut.py") 485, Value.int 164 0, Value.int 2 0, Value.int 0 0, Value.int 0 0, Value.int 3 0, Value.ref 173, Value.bool true, Value.int 181 0, Value.ref 174, Value.none, Value.ref 175, Value.ref 176, Value.ref 177, Value.int 488 0, Value.int 164 0, Value.str (Str.ofString "/claim/cut.py") 489] }
noncomputable def o179 (_P : Params) : Obj := { cls := Value.type "function", data := Data.func { name := Str.ofString "_law_cell", qualname := Str.ofString "_law_cell", params := defParams (topSt 8), body := FuncBody.stmts (defBody (topSt 8)), scope := defScope (topSt 8), globals := 3, closure := [], defaults := Value.none, kwdefaults := Value.none, pyModule := Value.str (Str.ofString "law_bd0046_01") 475, code := Value.ref 178 } }
noncomputable def o185 (_P : Params) : Obj := { cls := Value.type "code", data := Data.fields #[Value.str (Str.ofString "_law_kind") 491, Value.str (Str.ofString "_law_kind") 492, Value.str (Str.ofString "/claim/cut.py") 493, Value.int 166 0, Value.int 1 0, Value.int 0 0, Value.int 0 0, Value.int 3 0, Value.ref 180, Value.bool true, Value.int 181 0, Value.ref 181, Value.none, Value.ref 182, Value.ref 183, Value.ref 184, Value.int 495 0, Value.int 166 0, Value.str (Str.ofString "/claim/cut.py") 496] }
noncomputable def o186 (_P : Params) : Obj := { cls := Value.type "function", data := Data.func { name := Str.ofString "_law_kind", qualname := Str.ofString "_law_kind", params := defParams (topSt 9), body := FuncBody.stmts (defBody (topSt 9)), scope := defScope (topSt 9), globals := 3, closure := [], defaults := Value.none, kwdefaults := Value.none, pyModule := Value.str (Str.ofString "law_bd0046_01") 475, code := Value.ref 185 } }
noncomputable def o192 (_P : Params) : Obj := { cls := Value.type "code", data := Data.fields #[Value.str (Str.ofString "_law_tokens") 498, Value.str (Str.ofString "_law_tokens") 499, Value.str (Str.ofString "/claim/cut.py") 500, Value.int 172 0, Value.int 3 0, Value.int 0 0, Value.int 0 0, Value.int 3 0, Value.ref 187, Value.bool true, Value.int 181 0, Value.ref 188, Value.none, Value.ref 189, Value.ref 190, Value.ref 191, Value.int 510 0, Value.int 172 0, Value.str (Str.ofString "/claim/cut.py") 511] }
noncomputable def o193 (_P : Params) : Obj := { cls := Value.type "function", data := Data.func { name := Str.ofString "_law_tokens", qualname := Str.ofString "_law_tokens", params := defParams (topSt 10), body := FuncBody.stmts (defBody (topSt 10)), scope := defScope (topSt 10), globals := 3, closure := [], defaults := Value.none, kwdefaults := Value.none, pyModule := Value.str (Str.ofString "law_bd0046_01") 475, code := Value.ref 192 } }
noncomputable def o199 (_P : Params) : Obj := { cls := Value.type "code", data := Data.fields #[Value.str (Str.ofString "_law_statement") 513, Value.str (Str.ofString "_law_statement") 514, Value.str (Str.ofString "/claim/cut.py") 515, Value.int 182 0, Value.int 3 0, Value.int 0 0, Value.int 0 0, Value.int 3 0, Value.ref 194, Value.bool true, Value.int 181 0, Value.ref 195, Value.none, Value.ref 196, Value.ref 197, Value.ref 198, Value.int 521 0, Value.int 182 0, Value.str (Str.ofString "/claim/cut.py") 522] }
noncomputable def o200 (_P : Params) : Obj := { cls := Value.type "function", data := Data.func { name := Str.ofString "_law_statement", qualname := Str.ofString "_law_statement", params := defParams (topSt 11), body := FuncBody.stmts (defBody (topSt 11)), scope := defScope (topSt 11), globals := 3, closure := [], defaults := Value.none, kwdefaults := Value.none, pyModule := Value.str (Str.ofString "law_bd0046_01") 475, code := Value.ref 199 } }
noncomputable def KF : Params → Frag := fun P => [(nat_lit 2, o2 P), (nat_lit 3, o3 P), (nat_lit 73, o73 P), (nat_lit 74, o74 P), (nat_lit 95, o95 P), (nat_lit 96, o96 P), (nat_lit 154, o154 P), (nat_lit 155, o155 P), (nat_lit 156, o156 P), (nat_lit 164, o164 P), (nat_lit 165, o165 P), (nat_lit 171, o171 P), (nat_lit 172, o172 P), (nat_lit 178, o178 P), (nat_lit 179, o179 P), (nat_lit 185, o185 P), (nat_lit 186, o186 P), (nat_lit 192, o192 P), (nat_lit 193, o193 P), (nat_lit 199, o199 P), (nat_lit 200, o200 P)]
end Mine

end
section
open PySem PySem.W PyProof.Rows PySem.Calls Builtin
set_option maxHeartbeats 8000000
namespace Mine
section
variable {prog : Program} {w : World} {A : Around} {s : Shared} {h₀ : Heap} {L : Addr} {m : Str → Option Value} {news : List (Addr × Obj)} {env : Env} {E : Value → Shared → Prop}
/-- an expression that gives a text, a constant or a name -/
structure AtomEv (prog : Program) (w : World) (A : Around) (env : Env) (h₀ : Heap) (L : Addr) (m : Str → Option Value) (e : Expr) (x : Str) : Prop where
  one : ∀ rest, starEach (e :: rest) env = (false, eval e env) :: starEach rest env
  ev : ∀ (s : Shared) (Q : Value → Shared → Prop) (E : Value → Shared → Prop), Fr h₀ L s.heap m → (∀ t tk, Q (.str x t) { s with toks := tk }) → wpAny (model prog w) A (eval e env) Q E s
inductive Atoms (prog : Program) (w : World) (A : Around) (env : Env) (h₀ : Heap) (L : Addr) (m : Str → Option Value) : List Expr → List Str → Prop
  | nil : Atoms prog w A env h₀ L m [] []
  | cons {e x es xs} : AtomEv prog w A env h₀ L m e x → Atoms prog w A env h₀ L m es xs → Atoms prog w A env h₀ L m (e :: es) (x :: xs)
inductive Prs (prog : Program) (w : World) (A : Around) (env : Env) (h₀ : Heap) (L : Addr) (m : Str → Option Value) : List Expr → List (Int × Str) → Prop
  | nil : Prs prog w A env h₀ L m [] []
  | cons {i k p k2 p2 e x es ps} : AtomEv prog w A env h₀ L m e x → Prs prog w A env h₀ L m es ps → Prs prog w A env h₀ L m (.Tuple [.Constant (.int i) k p, e] k2 p2 :: es) ((i, x) :: ps)
theorem AtomEv.const {x : Str} {k p} : AtomEv prog w A env h₀ L m (.Constant (.str x) k p) x := ⟨fun _ => rfl, fun _ _ _ _ h => wpAny_Constant_str (h _ _)⟩
theorem atoms_spl {pos : Pos} : ∀ {es : List Expr} {xs : List Str} {s : Shared} {Q : List Value → Shared → Prop}, Atoms prog w A env h₀ L m es xs → Fr h₀ L s.heap m →
    (∀ vs tk, DatAll [] vs (xs.map Dat.str) → Q vs { s with toks := tk }) → wpAny (model prog w) A (spliced (backTo pos (starEach es env))) Q E s
  | _, _, s, _, .nil, _, h => spliced_none (h [] s.toks .nil)
  | _, _, _, _, .cons a r, F, h => spliced_more (a.ev _ _ _ F fun t tk => atoms_spl r F fun vs tk' D => h (_ :: vs) tk' (.cons (.str _ t) D)) (a.one _)
theorem list_atoms {pos : Pos} {es : List Expr} {xs : List Str} {Q : Value → Shared → Prop} (a : Atoms prog w A env h₀ L m es xs) (F : Fr h₀ L s.heap m) (N : News h₀ L s.heap news) (hf : xs.length ≤ 100)
    (h : ∀ D h' vs tk, Fr h₀ L h' m → News h₀ L h' ((D, listOf vs.toArray 0) :: news) → (∀ q ∈ news, q.1 < D) → DatAll [] vs (xs.map Dat.str) → Q (.ref D) { s with heap := h', toks := tk }) :
    wpAny (model prog w) A (eval (.List es pos) env) Q E s :=
  wpAny_List_spliced (atoms_spl a F fun vs tk D => ⟨by have z := D.length; rw [List.length_map] at z; exact Nat.le_trans (Nat.le_of_eq z) (Nat.le_trans hf (by decide)), h _ _ vs tk (F.push _) (N.push F _) (fun q hq => Heap.lt_size (N q hq).1) D⟩)
theorem prs_spl {pos : Pos} : ∀ {es : List Expr} {ps : List (Int × Str)} {s : Shared} {news : List (Addr × Obj)} {Q : List Value → Shared → Prop}, Prs prog w A env h₀ L m es ps → Fr h₀ L s.heap m → News h₀ L s.heap news →
    (∀ vs tk h' tups, Fr h₀ L h' m → News h₀ L h' (tups ++ news) → DatAll (tups ++ news) vs (ps.map fun q => Dat.tuple [.int q.1, .str q.2]) → Q vs { s with heap := h', toks := tk }) → wpAny (model prog w) A (spliced (backTo pos (starEach es env))) Q E s
  | _, _, s, news, _, .nil, F, N, h => spliced_none (h [] s.toks s.heap [] F N .nil)
  | _, _, s, news, _, .cons (i := i9) (x := x9) a r, F, N, h => by
    refine spliced_more (wpAny_Tuple_spliced (spliced_more (wpAny_Constant_int ?_)))
    refine spliced_more (a.ev _ _ _ F fun t tk => spliced_none ⟨by show 2 ≤ sizeLine; decide, ?_⟩) (a.one _)
    refine prs_spl r (F.push _) (N.push F _) fun vs tk' h' tups F' N' D => ?_
    have e : ∀ q : Addr × Obj, tups ++ q :: news = (tups ++ [q]) ++ news := fun q => by simp
    rw [e] at N' D
    exact h (_ :: vs) tk' h' _ F' N' (.cons (.tuple (vs := [_, _]) (List.mem_append_left _ (List.mem_append_right _ (.head _))) (.cons (.int _ _) (.cons (.str _ _) .nil))) D)
theorem list_prs {pos : Pos} {es : List Expr} {ps : List (Int × Str)} {Q : Value → Shared → Prop} (a : Prs prog w A env h₀ L m es ps) (F : Fr h₀ L s.heap m) (N : News h₀ L s.heap news) (hf : ps.length ≤ 100)
    (h : ∀ D h' vs tk tups, Fr h₀ L h' m → News h₀ L h' ((D, listOf vs.toArray 0) :: (tups ++ news)) → (∀ q ∈ tups ++ news, q.1 < D) → DatAll (tups ++ news) vs (ps.map fun q => Dat.tuple [.int q.1, .str q.2]) → Q (.ref D) { s with heap := h', toks := tk }) :
    wpAny (model prog w) A (eval (.List es pos) env) Q E s :=
  wpAny_List_spliced (prs_spl a F N fun vs tk h' tups F' N' D => ⟨by have z := D.length; rw [List.length_map] at z; exact Nat.le_trans (Nat.le_of_eq z) (Nat.le_trans hf (by decide)), h _ _ vs tk tups (F'.push _) (N'.push F' _) (fun q hq => Heap.lt_size (N' q hq).1) D⟩)
end
end Mine

end
section
open PySem PySem.W PyProof.Rows PySem.Calls Builtin
set_option maxHeartbeats 8000000
namespace Mine

section
variable {w : World} {h : Heap}
theorem tk_call (X : (KF w.params).In h) : Looks (model (RowW.prog (OpenRow.toRowW (OpenLaw.row PySem.Challenge.rw_bd0046_01))) w) h (specialOf (.ref 155) "__call__") (some (.builtin "type.__call__")) := Looks.of_peek X (by kernel_rfl)
theorem tk_obj (X : (KF w.params).In h) : ∃ oc od cd sl, h.get? 155 = some ⟨oc, od, .cls cd, sl⟩ ∧ cd.hasDel = false ∧ cd.mro = [.ref 155, .type "tuple", .type "object"] := ⟨_, _, _, _, X 155 _ (by rfl), rfl, rfl⟩
theorem tk_mro (X : (KF w.params).In h) : Looks (model (RowW.prog (OpenRow.toRowW (OpenLaw.row PySem.Challenge.rw_bd0046_01))) w) h (mroOf (.ref 155)) [.ref 155, .type "tuple", .type "object"] := Looks.of_peek X (by kernel_rfl)
theorem tk_typ (X : (KF w.params).In h) : Looks (model (RowW.prog (OpenRow.toRowW (OpenLaw.row PySem.Challenge.rw_bd0046_01))) w) h (isInstance (.ref 155) (.type "type")) true := Looks.of_peek X (by kernel_rfl)
theorem tk_made (X : (KF w.params).In h) : Looks (model (RowW.prog (OpenRow.toRowW (OpenLaw.row PySem.Challenge.rw_bd0046_01))) w) h (Bind.madeBy (.ref 155)) none := Looks.of_peek X (by kernel_rfl)
theorem tk_made' (X : (KF w.params).In h) : Looks (model (RowW.prog (OpenRow.toRowW (OpenLaw.row PySem.Challenge.rw_bd0046_01))) w) h (Bind.madeHere "tuple.__new__" (.ref 155)) () := Looks.of_peek X (by kernel_rfl)
theorem tk_base (X : (KF w.params).In h) : Looks (model (RowW.prog (OpenRow.toRowW (OpenLaw.row PySem.Challenge.rw_bd0046_01))) w) h (Bind.staticBase (.ref 155)) (.type "tuple") := Looks.of_peek X (by kernel_rfl)
theorem tk_isType (X : (KF w.params).In h) : Looks (model (RowW.prog (OpenRow.toRowW (OpenLaw.row PySem.Challenge.rw_bd0046_01))) w) h (isType (.ref 155)) true := Looks.of_peek X (by kernel_rfl)
theorem tk_sub (X : (KF w.params).In h) : Looks (model (RowW.prog (OpenRow.toRowW (OpenLaw.row PySem.Challenge.rw_bd0046_01))) w) h (isSubtype (.ref 155) (.type "tuple")) true := Looks.of_peek X (by kernel_rfl)
theorem tk_subo (X : (KF w.params).In h) : Looks (model (RowW.prog (OpenRow.toRowW (OpenLaw.row PySem.Challenge.rw_bd0046_01))) w) h (isSubtype (.ref 155) (.type "object")) true := Looks.of_peek X (by kernel_rfl)
theorem tk_self (X : (KF w.params).In h) : Looks (model (RowW.prog (OpenRow.toRowW (OpenLaw.row PySem.Challenge.rw_bd0046_01))) w) h (isSubtype (.ref 155) (.ref 155)) true := Looks.of_peek X (by kernel_rfl)
theorem tk_init (X : (KF w.params).In h) : Looks (model (RowW.prog (OpenRow.toRowW (OpenLaw.row PySem.Challenge.rw_bd0046_01))) w) h (typeLookup (.ref 155) "__init__") (some (.builtin "object.__init__")) := Looks.of_peek X (by kernel_rfl)
end
abbrev tokObj (d : Addr) (vs : List Value) : Obj := { cls := .ref 155, dict := some d, data := .seq vs.toArray }
theorem entry_tn : entryFor table "tuple.__new__" = some Builtin.«tuple.__new__» := F.entry_tuple_new
theorem tn_check (X : (KF w.params).In h) (t : Addr) : Looks (model (RowW.prog (OpenRow.toRowW (OpenLaw.row PySem.Challenge.rw_bd0046_01))) w) h (checkBuiltinCall "tuple.__new__" ⟨[.ref 155, .ref t], []⟩) () := Looks.of_peek X (by kernel_rfl)

section
variable {w : World} {A : Around} {s : Shared} {R : Result → Shared → Prop} {t : Addr} {ot : Obj} {vs : List Value}
theorem tuple_new {h₀ : Heap} {L : Addr} {m : Str → Option Value} {news : List (Addr × Obj)} (F : Fr h₀ L s.heap m) (N : News h₀ L s.heap news) (X : (KF w.params).In h₀)
    (ht : s.heap.get? t = some { cls := .type "tuple", data := .seq vs.toArray }) (hsz : vs.length ≤ 1000)
    (q : ∀ a d h', Fr h₀ L h' m → News h₀ L h' ((a, tokObj d vs) :: news) → (∀ p ∈ news, p.1 < a) → R (.ok (.ret (.ref a))) { s with heap := h' }) :
    codeAny (model (RowW.prog (OpenRow.toRowW (OpenLaw.row PySem.Challenge.rw_bd0046_01))) w) A (.call (.builtin "tuple.__new__") ⟨[.ref 155, .ref t], []⟩) R s := by
  refine codeAny_call_builtin_code (Code.quiet_builtin _ (by decide +kernel)) ?_
  replace X := X.keeps F.keep
  have L1 := tn_check X t
  refine L1.here ?_
  refine codeAny_builtin entry_tn ?_
  unfold Builtin.«tuple.__new__»
  have L2 := tk_isType X
  have L3 := tk_sub X
  have L4 := tk_made' X
  have L5 := tk_init X
  repeat (first | (with_reducible refine wpAny_collect_seq t (T := "tuple") (.inr rfl) ht rfl rfl ?_ ?_) | lk)
  · intro h' hk
    have F' : Fr h₀ L h' m := F.keeps hk
    have N' : News h₀ L h' news := fun p hp => ⟨hk _ _ (N p hp).1, (N p hp).2⟩
    have F2 := (F'.push emptyDict).push (tokObj h'.objs.size vs)
    have N2 : News h₀ L ((h'.push emptyDict).push (tokObj h'.objs.size vs)) (((h'.push emptyDict).objs.size, tokObj h'.objs.size vs) :: news) := by
      have := ((N'.push F' emptyDict).push (F'.push _) (tokObj h'.objs.size vs))
      intro p hp
      rcases List.mem_cons.mp hp with rfl | hp
      · exact this _ (.head _)
      · exact this _ (.tail _ (.tail _ hp))
    refine wpAny_bind (wpAny_pure (wpAny_bind (wpAny_alloc (wpAny_bind ?_))))
    unfold newObj
    have hz : ¬ vs.toArray.toList.toArray.size > sizeLine := by
      have e : sizeLine = 2 ^ 24 := rfl
      simp; omega
    have X2 : (KF w.params).In ((h'.push emptyDict).push (tokObj h'.objs.size vs)) := X.keeps fun b o e => Heap.get?_push_of_some _ (Heap.get?_push_of_some _ (hk b o e))
    obtain ⟨oc, od, cd, sl, hC, hdel, -⟩ := tk_obj X2
    dsimp only
    rw [if_neg hz]
    unfold newObjAsIs classHasDel
    refine wpAny_bind (wpAny_alloc (wpAny_bind ?_))
    refine wpAny_bind (wpAny_load hC (wpAny_pure ?_))
    rw [hdel]
    refine wpAny_pure (wpAny_pure ?_)
    have e9 : vs.toArray.toList.toArray = vs.toArray := by simp
    rw [e9]
    exact q _ _ _ F2 N2 (fun p hp => by rw [Heap.size_push]; exact Nat.lt_succ_of_lt (Heap.lt_size (N' p hp).1))
  · rw [List.size_toArray]; exact Nat.le_trans hsz (by decide)


theorem tk_c5 : findCls (KF w.params) (.type "tuple") (.type "type") "__new__" = some (.val (.builtin "tuple.__new__")) := by kernel_rfl
theorem tk_c6 : typeOf (.type "tuple") = pure (.type "type") := by kernel_rfl
theorem tk_c7 : Manifest.isStub "tuple" = false := by decide +kernel
theorem gm_tn {h₀ : Heap} {L : Addr} {m : Str → Option Value} {E : Value → Shared → Prop} {Q : Value × List Value → Shared → Prop} {pl : Sem Bool} (F : Fr h₀ L s.heap m) (X : (KF w.params).In h₀) (h : Q (.builtin "tuple.__new__", []) { s with toks := s.toks + 1 }) :
    wpAny (model (RowW.prog (OpenRow.toRowW (OpenLaw.row PySem.Challenge.rw_bd0046_01))) w) A (getMethod (.type "tuple") (Str.ofString "__new__") pl) Q E s := by
  refine @method_type (RowW.prog (OpenRow.toRowW (OpenLaw.row PySem.Challenge.rw_bd0046_01))) w A E s (KF w.params) L h₀ m (Str.ofString "__new__") (.builtin "tuple.__new__") "tuple" pl Q F X ?a ?b ?c ?d ?e
  case a => exact tk_c6
  case b => exact tk_c7
  case c => exact tk_c5
  case d => kernel_rfl
  case e => exact h
theorem call_tn {h₀ : Heap} {L : Addr} {m : Str → Option Value} {news : List (Addr × Obj)} {E : Value → Shared → Prop} {Q : Value → Shared → Prop} {k : Nat} (F : Fr h₀ L s.heap m) (N : News h₀ L s.heap ((t, { cls := .type "tuple", data := .seq vs.toArray k }) :: news)) (X : (KF w.params).In h₀)
    (hsz : vs.length ≤ 1000) (hk : k = 0)
    (q : ∀ a d h', Fr h₀ L h' m → News h₀ L h' ((a, tokObj d vs) :: (t, { cls := .type "tuple", data := .seq vs.toArray k }) :: news) → (∀ p ∈ (t, ({ cls := .type "tuple", data := .seq vs.toArray k } : Obj)) :: news, p.1 < a) → Q (.ref a) { s with heap := h' }) :
    wpAny (model (RowW.prog (OpenRow.toRowW (OpenLaw.row PySem.Challenge.rw_bd0046_01))) w) A (call (.builtin "tuple.__new__") [.ref 155, .ref t]) Q E s := by
  subst hk
  exact wpAny_call (tuple_new F N X (N _ (.head _)).1 hsz q)
end
local macro_rules | `(tactic| walk_at "getMethod type:tuple") => `(tactic| (k_here; (rename Fr _ _ _ _ => kF); (refine gm_tn kF (by with_reducible assumption) ?_)))
local macro_rules | `(tactic| walk_at "call builtin:tuple.__new__") => `(tactic| (k_here; (rename Fr _ _ _ _ => kF); (rename News _ _ _ _ => kN); (refine call_tn kF kN (by with_reducible assumption) (Nat.le_of_ble_eq_true rfl) rfl ?_); intro ta' td' h' F' N' l1'))
section
variable {w : World} {A : Around} {s : Shared} {R : Result → Shared → Prop}
theorem oi_args5 (a b c d e f : Value) : argsOk "object.__init__" ⟨[a, b, c, d, e, f], []⟩ := by unfold argsOk; kernel_rfl
variable {A₀ : Around} {h₀ base : Heap} {L : Addr} {m mg mb : Str → Option Value} {news : List (Addr × Obj)} {mean : ExcName → Option Value} {p : Program} {loose : List Str} {env : Env} {outer : List Env}
theorem token_call {k wv st en ln : Value} (B : Below A₀ base outer h₀) (F : Fr h₀ L s.heap m) (X : (KF w.params).In h₀) (N : News h₀ L s.heap news) (T : Top p loose mean mg mb h₀) (hA : A.frames = some (env :: outer)) (hf : env.frame = some L) (hke : env.scope.kind = .function)
    (hroom : A.depth + 1 < recursionLimit)
    (q : ∀ a d h', Fr h₀ L h' m → News h₀ L h' ((a, tokObj d [k, wv, st, en, ln]) :: news) → (∀ p ∈ news, p.1 < a) → ∀ tk, R (.ok (.ret (.ref a))) { s with heap := h', toks := tk }) :
    codeAny (model (RowW.prog (OpenRow.toRowW (OpenLaw.row PySem.Challenge.rw_bd0046_01))) w) A (.call (.ref 155) ⟨[k, wv, st, en, ln], []⟩) R s := by
  revert X; k_fill; intro X
  have X1 := X.keeps F.keep
  refine codeAny_of_tree ?_
  show wpAny _ _ (callAny (.ref 155) _) _ _ _
  obtain ⟨oc, od, cd, sl, hC, hdel, hmro⟩ := tk_obj X1
  refine nd_load hC ?_
  show wpAny _ _ (callAny.viaDunder (.ref 155) _) _ _ _
  unfold callAny.viaDunder
  refine wpAny_bind ((tk_call X1).here ?_)
  dsimp only
  rw [tc_bind]
  refine wpAny_bind (wpAny_pure (wpAny_bind (wpAny_pure ?_)))
  refine wpAny_pure (a := Fin.again (.call (.builtin "type.__call__") ⟨[.ref 155, k, wv, st, en, ln], []⟩)) (And.intro rfl ?_)
  refine codeAny_call_builtin_at (Code.quiet_builtin _ (by decide +kernel)) entry_typeCall (check_slot tc_kind tc_split (tk_typ X1) (tc_args _ _ _) ?_)
  unfold Builtin.«type.__call__»
  have L1 := tk_mro X1
  have L2 := tk_made X1
  have c1 : typeIn (KF w.params) (.ref 155) = some (.type "type") := by kernel_rfl
  have c2 : readsIn (KF w.params) 155 (.type "type") = true := by kernel_rfl
  have c3 : findCls (KF w.params) (.ref 155) (.type "type") "__new__" = some (.get (.builtin "staticmethod.__get__") (.ref 156) .none (.ref 155)) := by kernel_rfl
  have c4 : recIn (KF w.params) 156 "staticmethod" = some [.ref 96] := by kernel_rfl
  repeat (first | (with_reducible refine cls_sm F X c1 c2 c3 c4 rfl ?_) | (with_reducible refine wpAny_call ?_) | lk)
  have hA' : (A.under (Code.builtin "type.__call__" { pos := [Value.ref 155, k, wv, st, en, ln] })).frames = some (env :: outer) := hA
  have hr' : (A.under (Code.builtin "type.__call__" { pos := [Value.ref 155, k, wv, st, en, ln] })).depth < recursionLimit := hroom
  refine' code_def B F X N T hA' hf hke ?k6 ?k7 hr' ?k9 ?kB ?_ ?c2 ?c3 ?c4 ?c5
  case k6 => k_is
  case k7 => k_is
  case k9 => exact BindsTo.of_eq rfl
  case c5 => decide
  case kB => exact locs rfl
  case c2 => exact rfl
  case c3 => exact rfl
  case c4 => exact rfl
  intro g' L' h' FG' F' N' B' X' T'
  (try dsimp only)
  k_fold
  conv => 
    arg 3
    arg 1
    whnf
  k_steps
  rename_i ta td h9 F9 N9 l9 kF kN Tc9 kX9
  have X2 : (KF w.params).In h9 := X.keeps kF.keep
  have t1 : Looks (model (RowW.prog (OpenRow.toRowW (OpenLaw.row PySem.Challenge.rw_bd0046_01))) w) h9 (typeOf (.ref ta)) (.ref 155) := (Looks.ld (kN _ (.head _)).1).andThen .now
  have t2 : Looks (model (RowW.prog (OpenRow.toRowW (OpenLaw.row PySem.Challenge.rw_bd0046_01))) w) h9 (isInstance (.ref ta) (.ref 155)) true := t1.andThen (tk_self X2)
  have t3 : Looks (model (RowW.prog (OpenRow.toRowW (OpenLaw.row PySem.Challenge.rw_bd0046_01))) w) h9 (isInstance (.ref ta) (.type "object")) true := t1.andThen (tk_subo X2)
  have t4 := tk_init X2
  have t5 := tk_made X2
  refine wpAny_bind (t2.here ?_)
  simp only [Bool.not_true, Bool.false_eq_true, if_false]
  unfold callSpecial? specialOf
  refine wpAny_bind (wpAny_holding (wpAny_bind (wpAny_bind (t1.here (t4.here ?_)))))
  refine wpAny_holding (wpAny_bind ?_)
  rw [oi_bind]
  refine wpAny_pure (wpAny_bind (wpAny_call ?_))
  refine codeAny_call_builtin oi_plain entry_oi (@check_slot (model (RowW.prog (OpenRow.toRowW (OpenLaw.row PySem.Challenge.rw_bd0046_01))) w) _ _ _ "object.__init__" "object" "__init__" (.ref ta) [k, wv, st, en, ln] [] _ oi_kind oi_split t3 (oi_args5 _ _ _ _ _ _) ?_)
  unfold Builtin.«object.__init__»
  repeat lk
  refine q ta td h9 kF (fun p hp => ?_) (fun p hp => l9 p (.tail _ hp)) _
  rcases List.mem_cons.mp hp with rfl | hp
  · exact kN _ (.head _)
  · exact kN _ (.tail _ (.tail _ hp))
end
end Mine

end
section
open PySem PySem.W PyProof.Rows PySem.Calls Builtin
set_option maxHeartbeats 8000000
namespace Mine
section
variable {w : World} {h : Heap}
theorem tk_iter (X : (KF w.params).In h) : Looks (model (RowW.prog (OpenRow.toRowW (OpenLaw.row PySem.Challenge.rw_bd0046_01))) w) h (typeLookup (.ref 155) "__iter__") (some (.builtin "tuple.__iter__")) := Looks.of_peek X (by kernel_rfl)
theorem tk_noSeq (X : (KF w.params).In h) : Looks (model (RowW.prog (OpenRow.toRowW (OpenLaw.row PySem.Challenge.rw_bd0046_01))) w) h (seqItemTypes.anyM fun n => isSubtype (.ref 155) (.type n)) false := Looks.of_peek X (by kernel_rfl)
theorem tk_gi (X : (KF w.params).In h) : Looks (model (RowW.prog (OpenRow.toRowW (OpenLaw.row PySem.Challenge.rw_bd0046_01))) w) h (typeLookup (.ref 155) "__getitem__") (some (.builtin "tuple.__getitem__")) := Looks.of_peek X (by kernel_rfl)
end
section
variable {w : World} {A : Around} {E : Value → Shared → Prop} {s : Shared} {R : Result → Shared → Prop} {t d : Addr} {vs : List Value}

theorem tok_type (ht : s.heap.get? t = some (tokObj d vs)) : Looks (model (RowW.prog (OpenRow.toRowW (OpenLaw.row PySem.Challenge.rw_bd0046_01))) w) s.heap (typeOf (.ref t)) (.ref 155) := (Looks.ld ht).andThen .now

theorem gk1 : builtinKind "tuple.__getitem__" = some .slot := by decide +kernel
theorem gk2 : splitId "tuple.__getitem__" = some ("tuple", "__getitem__") := by decide +kernel
theorem gk3 : builtinKind "tuple.__iter__" = some .slot := by decide +kernel
theorem gk4 : splitId "tuple.__iter__" = some ("tuple", "__iter__") := by decide +kernel
theorem tok_iter {Q : Value → Shared → Prop} (X : (KF w.params).In s.heap) (ht : s.heap.get? t = some (tokObj d vs))
    (hQ : Q (.ref s.heap.objs.size) { s with heap := s.heap.push { cls := .type "tuple_iterator", data := .fields #[.ref t, .int 0 0] } }) :
    wpAny (model (RowW.prog (OpenRow.toRowW (OpenLaw.row PySem.Challenge.rw_bd0046_01))) w) A (pyIter (.ref t)) Q E s := by
  have L1 := tok_type (w := w) ht
  have L2 := tk_iter X
  have L3 : Looks (model (RowW.prog (OpenRow.toRowW (OpenLaw.row PySem.Challenge.rw_bd0046_01))) w) s.heap (isInstance (.ref t) (.type "tuple")) true := L1.andThen (tk_sub X)
  unfold pyIter specialOf callSpecialIfBoundUnlessNone? bindSpecialIfBound? specialOf
  repeat (first | lk)
  rw [slot_tuple_iter.bind]
  have e : ∀ c : Bool, (if c = true then (do let x ← (pure (Value.builtin "tuple.__iter__", [Value.ref t]) : Sem (Value × List Value)); pure (some x)) else (do let x ← (pure (Value.builtin "tuple.__iter__", [Value.ref t]) : Sem (Value × List Value)); pure (some x)).tryCatch fun x => do rule "special.get-raises-dropped"; pure none) = pure (some (Value.builtin "tuple.__iter__", [Value.ref t])) := by
    intro c; cases c <;> rfl
  rw [e]
  refine wpAny_pure ?_
  repeat (first | with_reducible refine wpAny_call ?_ | lk)
  refine codeAny_call_builtin slot_tuple_iter.plain entry_tuple_iter (@check_slot (model (RowW.prog (OpenRow.toRowW (OpenLaw.row PySem.Challenge.rw_bd0046_01))) w) _ _ _ "tuple.__iter__" "tuple" "__iter__" (.ref t) [] [] _ gk3 gk4 L3 (args_tuple_iter _) ?_)
  show wpAny _ _ (do ret (← newFields "tuple_iterator" [.ref t, rawInt 0])) _ _ _
  refine wpAny_bind (wpAny_newObj_type (wpAny_pure ?_))
  have L4 : Looks (model (RowW.prog (OpenRow.toRowW (OpenLaw.row PySem.Challenge.rw_bd0046_01))) w) (s.heap.push { cls := .type "tuple_iterator", data := .fields #[.ref t, .int 0 0] }) (typeOf (.ref s.heap.objs.size)) (.type "tuple_iterator") := (Looks.ld (Heap.get?_push_size _ rfl)).andThen .now
  have L5 : ∀ h9, Looks (model (RowW.prog (OpenRow.toRowW (OpenLaw.row PySem.Challenge.rw_bd0046_01))) w) h9 (typeLookup (.type "tuple_iterator") "__next__") (some (.builtin "tuple_iterator.__next__")) := fun _ => Looks.of_pure slot_tupleiter_next.lookup
  repeat lk
  refine nd_load (Heap.get?_push_size _ rfl) ?_
  repeat lk
  exact hQ

theorem tok_next_item {it : Addr} {i : Nat} {x : Value} {Q : Option Value → Shared → Prop} (hit : IsTupIter s.heap it t i)
    (ht : s.heap.get? t = some (tokObj d vs)) (hx : vs[i]? = some x)
    (hQ : ∀ h', IsTupIter h' it t (i + 1) → Heap.SameBut it s.heap h' → Q (some x) { s with heap := h' }) :
    wpAny (model (RowW.prog (OpenRow.toRowW (OpenLaw.row PySem.Challenge.rw_bd0046_01))) w) A (pyNext (.ref it)) Q E s := by
  obtain ⟨o, ho, hc, hd⟩ := id hit
  have hx' : vs.toArray[i]? = some x := by simpa using hx
  unfold pyNext
  refine wpAny_bind (wpAny_attempt (wpAny_callSpecial?_slot (name := Str.ofString "__next__") hit.typeIs slot_tupleiter_next
    (wpAny_call_entry slot_tupleiter_next hit.typeIs entry_tupleiter_next ?_ (args_tupleiter_next _))))
  show wpAny _ _ (field (.ref it) 0 >>= _) _ _ s
  refine wpAny_bind (wpAny_field ho hd (x := .ref t) rfl ?_)
  show wpAny _ _ (if (Value.ref t == Value.none) = true then _ else _) _ _ s
  rw [if_neg (show ¬ ((Value.ref t == Value.none) = true) from Bool.false_ne_true)]
  show wpAny _ _ (field (.ref it) 1 >>= _) _ _ s
  refine wpAny_bind (wpAny_field ho hd (x := .int i 0) rfl ?_)
  show wpAny _ _ (seqItems? (.ref t) >>= _) _ _ s
  refine wpAny_bind (wpAny_seqItems ht rfl ?_)
  simp only [Int.toNat_natCast, hx']
  refine wpAny_bind (wpAny_setField ho hd (by simp) (wpAny_pure ⟨x, rfl, wpAny_pure (hQ _ ?_ (Heap.SameBut.update ..))⟩))
  exact ⟨_, Heap.get?_update_self _ ho (Obj.isFreed_of_fields (Obj.data_mapFields hd _)), (Obj.cls_mapFields ..).trans hc, by
    rw [Obj.data_mapFields hd]; simp [rawInt]⟩

theorem tok_next_end {it : Addr} {i : Nat} {Q : Option Value → Shared → Prop} (hh : A.handled = none)
    (hit : IsTupIter s.heap it t i) (ht : s.heap.get? t = some (tokObj d vs)) (hx : vs[i]? = none)
    (hQ : ∀ h', Heap.ExtBut it s.heap h' → Q none { s with heap := h' }) : wpAny (model (RowW.prog (OpenRow.toRowW (OpenLaw.row PySem.Challenge.rw_bd0046_01))) w) A (pyNext (.ref it)) Q E s := by
  obtain ⟨o, ho, hc, hd⟩ := id hit
  have hx' : vs.toArray[i]? = none := by simpa using hx
  unfold pyNext
  refine wpAny_bind (wpAny_attempt (wpAny_callSpecial?_slot (name := Str.ofString "__next__") hit.typeIs slot_tupleiter_next
    (wpAny_call_entry slot_tupleiter_next hit.typeIs entry_tupleiter_next ?_ (args_tupleiter_next _))))
  show wpAny _ _ (field (.ref it) 0 >>= _) _ _ s
  refine wpAny_bind (wpAny_field ho hd (x := .ref t) rfl ?_)
  show wpAny _ _ (if (Value.ref t == Value.none) = true then _ else _) _ _ s
  rw [if_neg (show ¬ ((Value.ref t == Value.none) = true) from Bool.false_ne_true)]
  show wpAny _ _ (field (.ref it) 1 >>= _) _ _ s
  refine wpAny_bind (wpAny_field ho hd (x := .int i 0) rfl ?_)
  show wpAny _ _ (seqItems? (.ref t) >>= _) _ _ s
  refine wpAny_bind (wpAny_seqItems ht rfl ?_)
  simp only [Int.toNat_natCast, hx']
  refine wpAny_bind (wpAny_rule (wpAny_bind (wpAny_setField ho hd (by simp) ?_)))
  show wpAny _ _ (newExc (.type "StopIteration") [] >>= _) _ _ _
  refine wpAny_bind ?_
  simp only [newExc, newTuple]
  refine wpAny_bind (wpAny_newObj_type ?_ (by size_fits))
  refine wpAny_bind (m := firstArgMember _ _) (wpAny_of_eq (a := Value.none) (by first | rfl | (simp only [firstArgMember]; rfl)) ?_)
  refine wpAny_newObj_type ?_ (by size_fits)
  simp only [raiseNew]
  refine wpAny_bind (wpAny_handled ?_)
  rw [show A.in1.handled = none from hh]
  refine wpAny_bind (wpAny_pure (wpAny_throw ?_))
  refine wpAny_bind (wpAny_isInstance (T := "StopIteration") (b := true) ⟨_, Heap.get?_push_size _ rfl, rfl⟩ isSubtype_stop ?_)
  exact wpAny_pure (hQ _ (((Heap.SameBut.update ..).extBut.push _).push _))

theorem tok_draw {it : Addr} (hne : t ≠ it) : ∀ (n i : Nat) (s : Shared) (Q : List Value → Shared → Prop), IsTupIter s.heap it t i → s.heap.get? t = some (tokObj d vs) → i + n ≤ vs.length →
    (∀ h', IsTupIter h' it t (i + n) → Heap.SameBut it s.heap h' → Q ((vs.drop i).take n) { s with heap := h' }) → wpAny (model (RowW.prog (OpenRow.toRowW (OpenLaw.row PySem.Challenge.rw_bd0046_01))) w) A (draw (.ref it) n) Q E s
  | 0, i, s, Q, hit, _, _, hQ => by
    show wpAny _ _ (pure []) Q E s
    exact wpAny_pure (by simpa using hQ s.heap hit (Heap.SameBut.refl ..))
  | n + 1, i, s, Q, hit, ht, hle, hQ => by
    have hlt : i < vs.length := by omega
    show wpAny _ _ (pyNext (.ref it) >>= _) Q E s
    refine wpAny_bind (tok_next_item hit ht (x := vs[i]) (by simp [hlt]) fun h₁ hit₁ hs₁ => ?_)
    refine wpAny_bind (wpAny_holding (tok_draw hne n (i + 1) _ _ hit₁ (hs₁.extBut t _ hne ht) (by omega) fun h₂ hit₂ hs₂ => wpAny_pure ?_))
    have hd : vs.drop i = vs[i] :: vs.drop (i + 1) := List.drop_eq_getElem_cons hlt
    have := hQ h₂ (by rw [show i + (n + 1) = i + 1 + n by omega]; exact hit₂) (hs₁.trans hs₂)
    rw [hd, List.take_succ_cons] at this
    exact this

theorem tok_unpack {n : Nat} {Q : List Value → Shared → Prop} (X : (KF w.params).In s.heap) (hh : A.handled = none) (ht : s.heap.get? t = some (tokObj d vs)) (hn : n = vs.length)
    (hQ : ∀ h', Heap.ExtBut s.heap.objs.size s.heap h' → Q vs { s with heap := h' }) : wpAny (model (RowW.prog (OpenRow.toRowW (OpenLaw.row PySem.Challenge.rw_bd0046_01))) w) A (unpackItems (.ref t) n none) Q E s := by
  subst hn
  have hlt : t ≠ s.heap.objs.size := Nat.ne_of_lt (Heap.lt_size ht)
  have L1 := tok_type (w := w) ht
  have L2 := tk_iter X
  unfold unpackItems notIterableAtAll specialOf
  refine wpAny_bind (wpAny_bind (wpAny_bind (L1.here (L2.here ?_))))
  refine wpAny_pure ?_
  simp only [Bool.false_eq_true, if_false]
  refine wpAny_bind (wpAny_holding (tok_iter X ht ?_))
  refine wpAny_bind (wpAny_holding (tok_draw hlt vs.length 0 _ _ ⟨_, Heap.get?_push_size _ rfl, rfl, rfl⟩ (Heap.get?_push_of_some _ ht) (by omega) fun h₁ hit₁ hs₁ => ?_))
  rw [List.drop_zero, List.take_length]
  rw [if_neg (by simp)]
  have ht₁ : h₁.get? t = some (tokObj d vs) := hs₁.extBut t _ hlt (Heap.get?_push_of_some _ ht)
  refine wpAny_bind (wpAny_holding (tok_next_end hh hit₁ ht₁ (by simp) fun h₂ he₂ => ?_))
  simp only [Option.isSome_none, Bool.false_eq_true, if_false]
  exact wpAny_pure (hQ h₂ fun b o hb e => he₂ b o hb (hs₁.extBut b o hb (Heap.get?_push_of_some _ e)))

theorem tok_getItem {k : Int} {u : Tok} {x : Value} {Q : Value → Shared → Prop} (X : (KF w.params).In s.heap) (ht : s.heap.get? t = some (tokObj d vs)) (h0 : 0 ≤ k) (h1 : k < 100) (hx : vs[k.toNat]? = some x)
    (hQ : Q x s) : wpAny (model (RowW.prog (OpenRow.toRowW (OpenLaw.row PySem.Challenge.rw_bd0046_01))) w) A (getItem (.ref t) (.int k u)) Q E s := by
  have L1 := tok_type (w := w) ht
  have L2 := tk_gi X
  have L3 : Looks (model (RowW.prog (OpenRow.toRowW (OpenLaw.row PySem.Challenge.rw_bd0046_01))) w) s.heap (isInstance (.ref t) (.type "tuple")) true := L1.andThen (tk_sub X)
  have L4 := tk_noSeq X
  have hn : ¬ (k < -(2 ^ 63) ∨ k ≥ 2 ^ 63) := by omega
  have hlen : k.toNat < vs.length := (List.getElem?_eq_some_iff.mp hx).1
  have hj : seqIndex? k vs.toArray.size = some k.toNat := seqIndex_of h0 (by simp only [List.size_toArray]; omega)
  have hx' : vs.toArray[k.toNat]? = some x := by simpa using hx
  unfold getItem callSpecial? specialOf sequenceKey
  repeat (first | with_reducible refine wpAny_call ?_ | lk)
  have ck : ∀ (Q' : Unit → Shared → Prop) (E' : Value → Shared → Prop), Q' () s → wpAny (model (RowW.prog (OpenRow.toRowW (OpenLaw.row PySem.Challenge.rw_bd0046_01))) w) A.in1 (checkBuiltinCall "tuple.__getitem__" ⟨[.ref t, .int k u], []⟩) Q' E' s := fun Q' E' q =>
    @check_slot (model (RowW.prog (OpenRow.toRowW (OpenLaw.row PySem.Challenge.rw_bd0046_01))) w) A.in1 E' s "tuple.__getitem__" "tuple" "__getitem__" (.ref t) [.int k u] [] Q' gk1 gk2 L3 (args_tuple_getitem _ _) q
  show codeAny _ _ (.call (.builtin "tuple.__getitem__") ⟨[.ref t, .int k u], []⟩) _ _
  refine codeAny_call_builtin slot_tuple_getitem.plain entry_tuple_getitem ?_
  refine ck _ _ ?_
  show wpAny _ _ (Builtin.Tuple.tupleItemsOf (.ref t) >>= _) _ _ s
  unfold Builtin.Tuple.tupleItemsOf
  refine wpAny_bind ?_
  have hdd : (tokObj d vs).data = .seq vs.toArray 0 := rfl
  refine wpAny_bind (wpAny_seqItems ht hdd ?_)
  refine wpAny_pure ?_
  refine wpAny_bind (wpAny_typeOf (typeIs_int s k u) ?_)
  rw [if_neg (by decide)]
  refine wpAny_bind (wpAny_specialOf (T := "int") (typeIs_int s k u) int_index ?_)
  rw [if_neg (by simp)]
  refine wpAny_bind (wpAny_of_eq (a := k) rfl ?_)
  rw [if_neg (by simp only [Bool.or_eq_true, decide_eq_true_eq]; omega)]
  simp only [hj, Option.bind_some, hx']
  exact wpAny_pure (wpAny_pure (wpAny_pure hQ))

theorem tok_sub {value slice : Expr} {k : Int} {u : Tok} {x : Value} {Q : Value → Shared → Prop} (X : (KF w.params).In s.heap) (ht : s.heap.get? t = some (tokObj d vs)) (h0 : 0 ≤ k) (h1 : k < 100) (hx : vs[k.toNat]? = some x)
    (hQ : Q x s) (hs : subscripted slice false (.ref t) (.int k u) = operate [.ref t, .int k u] (getItem (.ref t) (.int k u))) : wpAny (model (RowW.prog (OpenRow.toRowW (OpenLaw.row PySem.Challenge.rw_bd0046_01))) w) A (subscriptTail value slice (.ref t) (.int k u)) Q E s := by
  have L1 := tok_type (w := w) ht
  have L2 := tk_gi X
  have hne : Value.ref t ≠ .builtin "sys.modules#opaque" := by intro h; cases h
  unfold subscriptTail
  refine wpAny_bind ?_
  rw [getitemInPython_of_ne hne]
  unfold specialOf
  repeat lk
  show wpAny _ _ (subscripted slice false (.ref t) (.int k u)) _ _ _
  rw [hs]
  exact wpAny_operating (wpAny_mono (tok_getItem X ht h0 h1 hx hQ) (fun r s₃ h₃ => wpAny_bind (wpAny_letTemporaryGo (wpAny_pure h₃))) fun _ _ x => x)
end
end Mine

end
section
open PySem PySem.W PyProof.Rows PySem.Calls Builtin
set_option maxHeartbeats 8000000
namespace Mine
/-! the pieces of the program's text, by projection -/
def gBody : List Stmt := defBody (topSt 5)
def gScope : Scope := defScope (topSt 5)
def gLoop : List Stmt := forBody (gBody.getD 6 default)
def gl (n : Nat) : Stmt := gLoop.getD n default
def gEnv (L : Addr) : Env := envOf "ambiguous_identifier" gScope L 165 (.ref 164)

/-! what a turn of the loop reckons -/
def avoid (x : Str) : Bool := [("l" : Str), "O", "I"].any fun y => y == x
def binder (x : Str) : Bool := [("as" : Str), "for", "global", "nonlocal"].any fun y => y == x
def isDL (x : Str) : Bool := false || decide (x = ("def" : Str)) || decide (x = ("lambda" : Str))
def isSep (x : Str) : Bool := false || decide (x = ("lambda" : Str)) || decide (x = ("," : Str)) || decide (x = ("*" : Str)) || decide (x = ("**" : Str)) || decide (x = ("(" : Str))
def inTxt (y x : Str) : Bool := !(Builtin.Str.occurrences y x 0 y.length 1).isEmpty
structure TS where
  fd : Option Int
  seen : Bool
  bd : Int
  prev : Str
  pp : Value
  text : Str
  sp : Value
  idn : Option (Str × Value)
def f2 (σ : TS) : TS := if isDL σ.prev = true then { σ with fd := some σ.bd, seen := false } else if (σ.fd.isSome && (σ.text == (":" : Str)) && σ.fd.any (fun d => decide (σ.bd = d))) = true then { σ with seen := true } else σ
def f3 (σ : TS) : TS := if inTxt "([{" σ.text = true then { σ with bd := σ.bd + 1 } else if inTxt ")]}" σ.text = true then { σ with bd := σ.bd - 1 } else σ
def f4 (σ : TS) : TS := if (((σ.text == (":=" : Str)) || ((σ.text == ("=" : Str)) && decide (σ.bd = 0))) && avoid σ.prev) = true then { σ with idn := some (σ.prev, σ.pp) } else σ
def f5 (σ : TS) : TS := if (binder σ.prev && avoid σ.text) = true then { σ with idn := some (σ.text, σ.sp) } else σ
def f6 (nxt : Option Str) (σ : TS) : TS := if (σ.fd.isSome && !σ.seen && nxt.any (fun x => inTxt ":,=)" x) && isSep σ.prev && avoid σ.text) = true then { σ with idn := some (σ.text, σ.sp) } else σ

inductive IsOptI : Value → Option Int → Prop
  | none : IsOptI .none none
  | some (d : Int) (t : Tok) : IsOptI (.int d t) (some d)
inductive IsId : Value → Value → Option (Str × Value) → Prop
  | none : IsId .none .none none
  | some (x : Str) (t : Tok) (v : Value) : IsId (.str x t) v (some (x, v))

def gents (tokens fdv : Value) (seen : Bool) (bd : Int) (t1 : Tok) (ids pty : Value) (prev : Str) (t2 : Tok) (pst pend pln idx tty : Value) (text : Str) (t3 : Tok) (st en ln idn ps : Value) : List (Str × Value) :=
  [("tokens", tokens), ("func_depth", fdv), ("seen_colon", .bool seen), ("brace_depth", .int bd t1), ("idents_to_avoid", ids), ("prev_type", pty), ("prev_text", .str prev t2), ("prev_start", pst), ("prev_end", pend), ("_line", pln),
   ("index", idx), ("token_type", tty), ("text", .str text t3), ("start", st), ("end", en), ("line", ln), ("ident", idn), ("pos", ps)]

theorem map_or {l : List (Str × Value)} {m : Str → Option Value} (h : ∀ p ∈ l, m p.1 = some p.2) : m = fun y => (List.lookup y l).or (m y) := by
  funext y
  cases e : List.lookup y l with
  | none => rfl
  | some v =>
    have : ∀ l : List (Str × Value), List.lookup y l = some v → (y, v) ∈ l := by
      intro l
      induction l with
      | nil => intro h; cases h
      | cons p r ih =>
        intro h
        rw [List.lookup_cons] at h
        cases hy : (y == p.1) with
        | true =>
          rw [hy] at h
          cases h
          rw [show y = p.1 from eq_of_beq hy]; exact .head _
        | false =>
          rw [hy] at h
          exact .tail _ (ih h)
    exact h _ (this l e)

/-- the frame between the statements of a turn -/
def FactsOf (m : Str → Option Value) (l : List (Str × Value)) : Prop := ∀ p ∈ l, m p.1 = some p.2
inductive GF (h₀ : Heap) (L : Addr) (h : Heap) (ta ia : Addr) (i : Int) (σ : TS) : Prop
  | mk (m : Str → Option Value) (fdv idv psv pty pend pln tty en ln : Value) (t1 t2 t3 ti : Tok) (F : Fr h₀ L h m)
    (hm : FactsOf m (gents (.ref ta) fdv σ.seen σ.bd t1 (.ref ia) pty σ.prev t2 σ.pp pend pln (.int i ti) tty σ.text t3 σ.sp en ln idv psv)) (ho : IsOptI fdv σ.fd) (hi : IsId idv psv σ.idn) : GF h₀ L h ta ia i σ
theorem gents_facts {m : Str → Option Value} {tokens fdv : Value} {seen : Bool} {bd : Int} {t1 : Tok} {ids pty : Value} {prev : Str} {t2 : Tok} {pst pend pln idx tty : Value} {text : Str} {t3 : Tok} {st en ln idn ps : Value}
    (h1 : m "tokens" = some tokens) (h2 : m "func_depth" = some fdv) (h3 : m "seen_colon" = some (.bool seen)) (h4 : m "brace_depth" = some (.int bd t1)) (h5 : m "idents_to_avoid" = some ids) (h6 : m "prev_type" = some pty) (h7 : m "prev_text" = some (.str prev t2)) (h8 : m "prev_start" = some pst) (h9 : m "prev_end" = some pend) (h10 : m "_line" = some pln)
    (h11 : m "index" = some idx) (h12 : m "token_type" = some tty) (h13 : m "text" = some (.str text t3)) (h14 : m "start" = some st) (h15 : m "end" = some en) (h16 : m "line" = some ln) (h17 : m "ident" = some idn) (h18 : m "pos" = some ps) :
    FactsOf m (gents tokens fdv seen bd t1 ids pty prev t2 pst pend pln idx tty text t3 st en ln idn ps) := by
  unfold gents
  intro p hp
  simp only [List.mem_cons, List.not_mem_nil, or_false] at hp
  rcases hp with rfl | rfl | rfl | rfl | rfl | rfl | rfl | rfl | rfl | rfl | rfl | rfl | rfl | rfl | rfl | rfl | rfl | rfl <;> assumption

local macro_rules | `(tactic| ktr_unf) => `(tactic| (exact gents_facts rfl rfl rfl rfl rfl rfl rfl rfl rfl rfl rfl rfl rfl rfl rfl rfl rfl rfl ))
local macro_rules | `(tactic| ktr_rel) => `(tactic| (
  (rename Fr _ _ _ _ => F9); (rename News _ _ _ _ => N9); (rename ∀ (h' : Heap) (tk : Nat) (σ' : TS), _ => H);
  (refine' H _ _ ⟨_, _, _, _, _, _, _, _⟩ ?eq ⟨_, _, _, _, _, _, _, _, _, _, _, _, _, _, F9, ?ms, ?o1, ?o2⟩ ?n);
  (case ms => (refine gents_facts ?_ ?_ ?_ ?_ ?_ ?_ ?_ ?_ ?_ ?_ ?_ ?_ ?_ ?_ ?_ ?_ ?_ ?_ <;> exact rfl));
  (case o1 => first | assumption | exact IsOptI.none | exact IsOptI.some _ _);
  (case o2 => first | assumption | exact IsId.none | exact IsId.some _ _ _);
  (case n => first | exact N9 | exact fun p hp => N9 p (.tail _ hp) | exact fun p hp => N9 p (.tail _ (.tail _ hp)))))

abbrev idsObj : Obj := { cls := .type "tuple", data := .seq #[.str "l" 0, .str "O" 0, .str "I" 0] }

section
variable {w : World} {A : Around} {s : Shared} {h₀ : Heap} {L ta ia : Addr} {news : List (Addr × Obj)} {p : Program} {loose : List Str} {mg mb : Str → Option Value} {mean : ExcName → Option Value} {i : Int} {σ : TS} {Q : Flow → Shared → Prop}

theorem g2 (G : GF h₀ L s.heap ta ia i σ) (N : News h₀ L s.heap news) (X : (KF w.params).In h₀) (T : Top p loose mean mg mb h₀)
    (H : ∀ h' tk σ', σ' = f2 σ → GF h₀ L h' ta ia i σ' → News h₀ L h' news → Q .next { s with heap := h', toks := tk }) :
    wpAny (model (RowW.prog (OpenRow.toRowW (OpenLaw.row PySem.Challenge.rw_bd0046_01))) w) A (exec (gl 2) (gEnv L)) Q (fun _ _ => False) s := by
  conv => 
    arg 3
    arg 1
    whnf
  revert X; k_fill; intro X
  unfold gEnv
  obtain ⟨fd, seen, bd, prev, pp, text, sp, idn⟩ := σ
  obtain ⟨m, fdv, idv, psv, pty, pend, pln, tty, en, ln, t1, t2, t3, ti, F, hm, ho, hi⟩ := G
  dsimp only at hm ho hi
  rw [map_or hm] at F
  unfold gents at F
  clear hm
  cases ho
  all_goals k_steps
  all_goals ktr_rel
  all_goals (first | (have q1 : isDL prev = true := by with_unfolding_all assumption) | (have q1 : isDL prev = false := by with_unfolding_all assumption))
  all_goals (simp [f2, *]; done)

theorem g3 (G : GF h₀ L s.heap ta ia i σ) (N : News h₀ L s.heap news) (X : (KF w.params).In h₀) (T : Top p loose mean mg mb h₀)
    (H : ∀ h' tk σ', σ' = f3 σ → GF h₀ L h' ta ia i σ' → News h₀ L h' news → Q .next { s with heap := h', toks := tk }) :
    wpAny (model (RowW.prog (OpenRow.toRowW (OpenLaw.row PySem.Challenge.rw_bd0046_01))) w) A (exec (gl 3) (gEnv L)) Q (fun _ _ => False) s := by
  conv => 
    arg 3
    arg 1
    whnf
  revert X; k_fill; intro X
  unfold gEnv
  obtain ⟨fd, seen, bd, prev, pp, text, sp, idn⟩ := σ
  obtain ⟨m, fdv, idv, psv, pty, pend, pln, tty, en, ln, t1, t2, t3, ti, F, hm, ho, hi⟩ := G
  dsimp only at hm ho hi
  rw [map_or hm] at F
  unfold gents at F
  clear hm
  k_steps
  all_goals ktr_rel
  all_goals (simp [f3, inTxt, *]; done)

theorem g4 {u1 u2 u3 : Tok} (G : GF h₀ L s.heap ta ia i σ) (N : News h₀ L s.heap ((ia, { cls := .type "tuple", data := .seq #[.str "l" u1, .str "O" u2, .str "I" u3] }) :: news)) (X : (KF w.params).In h₀) (T : Top p loose mean mg mb h₀)
    (H : ∀ h' tk σ', σ' = f4 σ → GF h₀ L h' ta ia i σ' → News h₀ L h' ((ia, { cls := .type "tuple", data := .seq #[.str "l" u1, .str "O" u2, .str "I" u3] }) :: news) → Q .next { s with heap := h', toks := tk }) :
    wpAny (model (RowW.prog (OpenRow.toRowW (OpenLaw.row PySem.Challenge.rw_bd0046_01))) w) A (exec (gl 4) (gEnv L)) Q (fun _ _ => False) s := by
  conv => 
    arg 3
    arg 1
    whnf
  revert X; k_fill; intro X
  unfold gEnv
  obtain ⟨fd, seen, bd, prev, pp, text, sp, idn⟩ := σ
  obtain ⟨m, fdv, idv, psv, pty, pend, pln, tty, en, ln, t1, t2, t3, ti, F, hm, ho, hi⟩ := G
  dsimp only at hm ho hi
  rw [map_or hm] at F
  unfold gents at F
  clear hm
  k_steps
  all_goals ktr_rel
  all_goals (try first | (have q1 : avoid prev = true := by with_unfolding_all assumption) | (have q1 : avoid prev = false := by with_unfolding_all assumption))
  all_goals (simp [f4, *]; done)

theorem g5 {u1 u2 u3 : Tok} (G : GF h₀ L s.heap ta ia i σ) (N : News h₀ L s.heap ((ia, { cls := .type "tuple", data := .seq #[.str "l" u1, .str "O" u2, .str "I" u3] }) :: news)) (X : (KF w.params).In h₀) (T : Top p loose mean mg mb h₀)
    (H : ∀ h' tk σ', σ' = f5 σ → GF h₀ L h' ta ia i σ' → News h₀ L h' ((ia, { cls := .type "tuple", data := .seq #[.str "l" u1, .str "O" u2, .str "I" u3] }) :: news) → Q .next { s with heap := h', toks := tk }) :
    wpAny (model (RowW.prog (OpenRow.toRowW (OpenLaw.row PySem.Challenge.rw_bd0046_01))) w) A (exec (gl 5) (gEnv L)) Q (fun _ _ => False) s := by
  conv => 
    arg 3
    arg 1
    whnf
  revert X; k_fill; intro X
  unfold gEnv
  obtain ⟨fd, seen, bd, prev, pp, text, sp, idn⟩ := σ
  obtain ⟨m, fdv, idv, psv, pty, pend, pln, tty, en, ln, t1, t2, t3, ti, F, hm, ho, hi⟩ := G
  dsimp only at hm ho hi
  rw [map_or hm] at F
  unfold gents at F
  clear hm
  k_steps
  all_goals ktr_rel
  all_goals (try first | (have q1 : avoid text = true := by with_unfolding_all assumption) | (have q1 : avoid text = false := by with_unfolding_all assumption))
  all_goals (try first | (have q2 : binder prev = true := by with_unfolding_all assumption) | (have q2 : binder prev = false := by with_unfolding_all assumption))
  all_goals (simp [f5, *]; done)
end
end Mine

end
section
open PySem PySem.W PyProof.Rows PySem.Calls Builtin
set_option maxHeartbeats 8000000
namespace Mine
local macro_rules | `(tactic| ktr_unf) => `(tactic| (exact gents_facts rfl rfl rfl rfl rfl rfl rfl rfl rfl rfl rfl rfl rfl rfl rfl rfl rfl rfl ))
local macro_rules | `(tactic| ktr_rel) => `(tactic| (
  (rename Fr _ _ _ _ => F9); (rename News _ _ _ _ => N9); (rename ∀ (h' : Heap) (tk : Nat) (σ' : TS), _ => H);
  (refine' H _ _ ⟨_, _, _, _, _, _, _, _⟩ ?eq ⟨_, _, _, _, _, _, _, _, _, _, _, _, _, _, F9, ?ms, ?o1, ?o2⟩ ?n);
  (case ms => (refine gents_facts ?_ ?_ ?_ ?_ ?_ ?_ ?_ ?_ ?_ ?_ ?_ ?_ ?_ ?_ ?_ ?_ ?_ ?_ <;> exact rfl));
  (case o1 => first | assumption | exact IsOptI.none | exact IsOptI.some _ _);
  (case o2 => first | assumption | exact IsId.none | exact IsId.some _ _ _);
  (case n => first | exact N9 | exact fun p hp => N9 p (.tail _ hp) | exact fun p hp => N9 p (.tail _ (.tail _ hp)))))

structure TK where
  text : Str
  a : Addr
  sv : Value
/-- the tokens, as they stand in the heap -/
structure ToksIn (h : Heap) (ta : Addr) (tks : List TK) : Prop where
  lst : h.IsList ta (tks.map fun t => Value.ref t.a).toArray
  tok : ∀ t ∈ tks, ∃ d kv t1 ev lnv, h.get? t.a = some (tokObj d [kv, .str t.text t1, t.sv, ev, lnv])
  few : tks.length ≤ 1000

section
variable {w : World} {A : Around} {E : Value → Shared → Prop} {s : Shared} {h₀ : Heap} {L ta ia : Addr} {m : Str → Option Value} {tks : List TK}
theorem tok_item {value slice : Expr} {k : Int} {u : Tok} {Q : Value → Shared → Prop} (F : Fr h₀ L s.heap m) (Y : ToksIn h₀ ta tks) (h0 : 0 ≤ k) (h1 : k < tks.length)
    (h : ∀ t, tks[k.toNat]? = some t → t ∈ tks → Q (.ref t.a) s)
    (hs : subscripted slice false (.ref ta) (.int k u) = operate [.ref ta, .int k u] (getItem (.ref ta) (.int k u)) := by with_unfolding_all rfl) :
    wpAny (model (RowW.prog (OpenRow.toRowW (OpenLaw.row PySem.Challenge.rw_bd0046_01))) w) A (subscriptTail value slice (.ref ta) (.int k u)) Q E s := by
  have hlt : k.toNat < tks.length := by omega
  have hl : s.heap.IsList ta (tks.map fun t => Value.ref t.a).toArray := Y.lst.at fun o e => F.keep ta o e
  have hf := Y.few
  exact tail_any hl.typeIs slot_list_getitem.lookup (wpAny_getItem_list hl h0 (by omega) (x := .ref (tks[k.toNat]).a) (by simp [hlt]) (h _ (List.getElem?_eq_getElem hlt) (List.getElem_mem hlt))) hs
theorem tok_text {value slice : Expr} {u : Tok} {t : TK} {Q : Value → Shared → Prop} (F : Fr h₀ L s.heap m) (X : (KF w.params).In h₀) (Y : ToksIn h₀ ta tks) (ht : t ∈ tks) (h : ∀ t1, Q (.str t.text t1) s)
    (hs : subscripted slice false (.ref t.a) (.int 1 u) = operate [.ref t.a, .int 1 u] (getItem (.ref t.a) (.int 1 u)) := by with_unfolding_all rfl) :
    wpAny (model (RowW.prog (OpenRow.toRowW (OpenLaw.row PySem.Challenge.rw_bd0046_01))) w) A (subscriptTail value slice (.ref t.a) (.int 1 u)) Q E s := by
  obtain ⟨d, kv, t1, ev, lnv, e⟩ := Y.tok t ht
  exact tok_sub (X.keeps F.keep) (F.keep _ _ e) (by decide) (by decide) rfl (h t1) hs
theorem tok_start {value slice : Expr} {u : Tok} {t : TK} {Q : Value → Shared → Prop} (F : Fr h₀ L s.heap m) (X : (KF w.params).In h₀) (Y : ToksIn h₀ ta tks) (ht : t ∈ tks) (h : Q t.sv s)
    (hs : subscripted slice false (.ref t.a) (.int 2 u) = operate [.ref t.a, .int 2 u] (getItem (.ref t.a) (.int 2 u)) := by with_unfolding_all rfl) :
    wpAny (model (RowW.prog (OpenRow.toRowW (OpenLaw.row PySem.Challenge.rw_bd0046_01))) w) A (subscriptTail value slice (.ref t.a) (.int 2 u)) Q E s := by
  obtain ⟨d, kv, t1, ev, lnv, e⟩ := Y.tok t ht
  exact tok_sub (X.keeps F.keep) (F.keep _ _ e) (by decide) (by decide) rfl h hs
theorem tok_len {Q : Value → Shared → Prop} (F : Fr h₀ L s.heap m) (Y : ToksIn h₀ ta tks)
    (h : ∀ tk tk', Q (.int (tks.length : Int) tk) { s with toks := tk' }) : wpAny (model (RowW.prog (OpenRow.toRowW (OpenLaw.row PySem.Challenge.rw_bd0046_01))) w) A (call (.builtin "len") [.ref ta]) Q E s := by
  have hl : s.heap.IsList ta (tks.map fun t => Value.ref t.a).toArray := Y.lst.at fun o e => F.keep ta o e
  have e : (tks.map fun t => Value.ref t.a).toArray.size = tks.length := by simp
  have hf := Y.few
  exact len_list hl (by rw [e]; omega) (by rw [e]; exact h _ _)
theorem tok_unpackF {n : Nat} {t : TK} {Q : List Value → Shared → Prop} {news : List (Addr × Obj)} (F : Fr h₀ L s.heap m) (N : News h₀ L s.heap news) (X : (KF w.params).In h₀) (Y : ToksIn h₀ ta tks) (ht : t ∈ tks) (hh : A.handled = none) (hn : n = 5)
    (h : ∀ h' kv t1 ev lnv, Fr h₀ L h' m → News h₀ L h' news → Q [kv, .str t.text t1, t.sv, ev, lnv] { s with heap := h' }) : wpAny (model (RowW.prog (OpenRow.toRowW (OpenLaw.row PySem.Challenge.rw_bd0046_01))) w) A (unpackItems (.ref t.a) n none) Q E s := by
  obtain ⟨d, kv, t1, ev, lnv, e⟩ := Y.tok t ht
  exact tok_unpack (X.keeps F.keep) hh (F.keep _ _ e) hn fun h' he => h h' _ _ _ _ (F.extBut he (Nat.le_refl _)) (N.extBut he (Nat.le_refl _))
theorem tok_assign {env : Env} {elts : List Expr} {k} {pos : Pos} {t : TK} {Q : Unit → Shared → Prop} {news : List (Addr × Obj)} (F : Fr h₀ L s.heap m) (N : News h₀ L s.heap news) (X : (KF w.params).In h₀) (Y : ToksIn h₀ ta tks) (ht : t ∈ tks) (hh : A.handled = none)
    (hn : (assignEach elts env).length = 5) (hstar : (assignEach elts env).findIdx? (·.1) = none)
    (h : ∀ h' kv t1 ev lnv, Fr h₀ L h' m → News h₀ L h' news → wpAny (model (RowW.prog (OpenRow.toRowW (OpenLaw.row PySem.Challenge.rw_bd0046_01))) w) A (assignInOrder ((assignEach elts env).map (·.2)) [kv, .str t.text t1, t.sv, ev, lnv]) Q E { s with heap := h' }) :
    wpAny (model (RowW.prog (OpenRow.toRowW (OpenLaw.row PySem.Challenge.rw_bd0046_01))) w) A (assign (.Tuple elts k pos) env (.ref t.a)) Q E s := by
  rw [assign_Tuple]
  refine wpAny_bind (wpAny_standAt ?_)
  unfold unpack
  rw [hn, hstar]
  exact wpAny_bind (wpAny_holding (tok_unpackF F N X Y ht hh rfl h))
end
local macro_rules | `(tactic| walk_at "assign Tuple") => `(tactic| (k_here; (rename Fr _ _ _ _ => kF); (rename News _ _ _ _ => kN); (rename ToksIn _ _ _ => kY); (refine tok_assign kF kN (by with_reducible assumption) kY (by with_reducible assumption) (by with_reducible assumption) rfl rfl ?_); intro h' kv' t1' ev' ln' F' N'; (try k_sweep)))
local macro_rules | `(tactic| walk_at "call builtin:len") => `(tactic| (k_here; (rename Fr _ _ _ _ => kF); (rename ToksIn _ _ _ => kY); (refine tok_len kF kY ?_); intro tk' tk''))
local macro_rules | `(tactic| walk_at "subscriptTail") => `(tactic| (k_here; (rename Fr _ _ _ _ => kF); (rename ToksIn _ _ _ => kY); (first
  | (refine tok_text kF (by with_reducible assumption) kY (by with_reducible assumption) ?_; intro tk')
  | (refine tok_start kF (by with_reducible assumption) kY (by with_reducible assumption) ?_)
  | (refine tok_item kF kY (by omega) (by omega) ?_; intro tq' tq1' tq2'))))
local macro_rules | `(tactic| walk_at "unpackItems ref") => `(tactic| (k_here; (rename Fr _ _ _ _ => kF); (rename News _ _ _ _ => kN); (rename ToksIn _ _ _ => kY); (refine tok_unpackF kF kN (by with_reducible assumption) kY (by with_reducible assumption) (by with_reducible assumption) rfl ?_); intro h' kv' t1' ev' ln' F' N'; (try k_sweep)))

section
variable {w : World} {A : Around} {s : Shared} {h₀ : Heap} {L ta ia : Addr} {news : List (Addr × Obj)} {p : Program} {loose : List Str} {mg mb : Str → Option Value} {mean : ExcName → Option Value} {i : Int} {σ : TS} {tks : List TK} {Q : Flow → Shared → Prop}

theorem g6 {u1 u2 u3 : Tok} (hi0 : 0 ≤ i) (hi1 : i < tks.length) (Y : ToksIn h₀ ta tks) (G : GF h₀ L s.heap ta ia i σ) (N : News h₀ L s.heap ((ia, { cls := .type "tuple", data := .seq #[.str "l" u1, .str "O" u2, .str "I" u3] }) :: news)) (X : (KF w.params).In h₀) (T : Top p loose mean mg mb h₀)
    (H : ∀ h' tk σ', σ' = f6 ((tks[(i + 1).toNat]?).map (·.text)) σ → GF h₀ L h' ta ia i σ' → News h₀ L h' ((ia, { cls := .type "tuple", data := .seq #[.str "l" u1, .str "O" u2, .str "I" u3] }) :: news) → Q .next { s with heap := h', toks := tk }) :
    wpAny (model (RowW.prog (OpenRow.toRowW (OpenLaw.row PySem.Challenge.rw_bd0046_01))) w) A (exec (gl 6) (gEnv L)) Q (fun _ _ => False) s := by
  conv => 
    arg 3
    arg 1
    whnf
  revert X; k_fill; intro X
  unfold gEnv
  obtain ⟨fd, seen, bd, prev, pp, text, sp, idn⟩ := σ
  obtain ⟨m, fdv, idv, psv, pty, pend, pln, tty, en, ln, t1, t2, t3, ti, F, hm, ho, hi⟩ := G
  dsimp only at hm ho hi
  rw [map_or hm] at F
  unfold gents at F
  clear hm
  cases ho
  all_goals k_steps
  all_goals (try (show Q .next { s with heap := s.heap, toks := s.toks }))
  all_goals ktr_rel
  all_goals (try first | (have q1 : avoid text = true := by with_unfolding_all assumption) | (have q1 : avoid text = false := by with_unfolding_all assumption))
  all_goals (try first | (have q2 : isSep prev = true := by with_unfolding_all assumption) | (have q2 : isSep prev = false := by with_unfolding_all assumption))
  all_goals (try (have q3 : tks[(i + 1).toNat]? = none := by (simp only [List.getElem?_eq_none_iff]; omega)))
  all_goals (simp [f6, inTxt, *]; done)

/-- the first two statements of the turn, behind the loop's own store -/
theorem g01 {Q : Flow → Shared → Prop} {m : Str → Option Value} {fdv pty pend pln : Value} {fd : Option Int} {seen : Bool} {bd : Int} {prev : Str} {pp : Value} {t1 t2 ti : Tok} (hh : A.handled = none) (hi0 : 0 ≤ i) (hi1 : i < tks.length) (Y : ToksIn h₀ ta tks)
    (F : Fr h₀ L s.heap m) (hm : ∀ p ∈ ([("tokens", .ref ta), ("func_depth", fdv), ("seen_colon", .bool seen), ("brace_depth", .int bd t1), ("idents_to_avoid", .ref ia), ("prev_type", pty), ("prev_text", .str prev t2), ("prev_start", pp), ("prev_end", pend), ("_line", pln), ("index", .int i ti)] : List (Str × Value)), m p.1 = some p.2)
    (ho : IsOptI fdv fd)
    (N : News h₀ L s.heap news) (X : (KF w.params).In h₀) (T : Top p loose mean mg mb h₀)
    (H : ∀ h' tk σ', (∃ t, tks[i.toNat]? = some t ∧ σ' = (⟨fd, seen, bd, prev, pp, t.text, t.sv, none⟩ : TS)) → GF h₀ L h' ta ia i σ' → News h₀ L h' news → Q .next { s with heap := h', toks := tk }) :
    wpAny (model (RowW.prog (OpenRow.toRowW (OpenLaw.row PySem.Challenge.rw_bd0046_01))) w) A (exec (gl 0) (gEnv L)) (fun f s₁ => f = .next ∧ wpAny (model (RowW.prog (OpenRow.toRowW (OpenLaw.row PySem.Challenge.rw_bd0046_01))) w) A (exec (gl 1) (gEnv L)) Q (fun _ _ => False) s₁) (fun _ _ => False) s := by
  conv => 
    arg 3
    arg 1
    whnf
  revert X; k_fill; intro X
  unfold gEnv at *
  rw [map_or hm] at F
  clear hm
  k_steps
  conv => 
    arg 3
    arg 1
    whnf
  k_steps
  rename tks[i.toNat]? = some _ => tq1
  ktr_rel
  exact ⟨_, tq1, rfl⟩
end
end Mine

end
section
open PySem PySem.W PyProof.Rows PySem.Calls Builtin
set_option maxHeartbeats 8000000
namespace Mine
def ifTest : Stmt → Expr
  | .If t _ _ _ => t
  | _ => default
def ifBody : Stmt → List Stmt
  | .If _ b _ _ => b
  | _ => []
def yExpr : Stmt → Expr
  | .Expr (.Yield (some e) _) _ => e
  | _ => default
section
variable {w : World} {A : Around} {s : Shared} {h₀ : Heap} {L ta ia : Addr} {news : List (Addr × Obj)} {p : Program} {loose : List Str} {mg mb : Str → Option Value} {mean : ExcName → Option Value} {i : Int} {σ : TS} {tks : List TK} {Q : Value → Shared → Prop}

local macro_rules | `(tactic| ktr_unf) => `(tactic| (exact gents_facts rfl rfl rfl rfl rfl rfl rfl rfl rfl rfl rfl rfl rfl rfl rfl rfl rfl rfl ))
local macro_rules | `(tactic| tb_rel) => `(tactic| (
  (rename Fr _ _ _ _ => F9);
  (refine' ⟨_, _, _, _, _, _, _, _, _, _, _, _, _, _, F9, ?ms, ?o1, ?o2⟩);
  (case ms => (refine gents_facts ?_ ?_ ?_ ?_ ?_ ?_ ?_ ?_ ?_ ?_ ?_ ?_ ?_ ?_ ?_ ?_ ?_ ?_ <;> exact rfl));
  (case o1 => first | assumption | exact IsOptI.none | exact IsOptI.some _ _);
  (case o2 => first | assumption | exact IsId.none | exact IsId.some _ _ _)))
/-- the text of a row of the generator -/
def msg (pre x : Str) : Str := pre ++ x ++ ("'" : Str)
def m741 : Str := "E741 ambiguous variable name '"
def m742 : Str := "E742 ambiguous class definition '"
def m743 : Str := "E743 ambiguous function definition '"
theorem avoid_cases {x : Str} (h : avoid x = true) : x = ("l" : Str) ∨ x = ("O" : Str) ∨ x = ("I" : Str) := by
  unfold avoid at h
  simp only [List.any_cons, List.any_nil, Bool.or_false, Bool.or_eq_true, beq_iff_eq] at h
  rcases h with h | h | h
  · exact .inl h.symm
  · exact .inr (.inl h.symm)
  · exact .inr (.inr h.symm)

theorem avoid_len {x : Str} (h : avoid x = true) : x.length ≤ 1 := by
  rcases avoid_cases h with rfl | rfl | rfl <;> decide +kernel
theorem avoid_len1 {x : Str} (h : avoid x = true) : 1 ≤ x.length := by
  rcases avoid_cases h with rfl | rfl | rfl <;> decide +kernel
theorem e7 (hav : avoid σ.text = true) (G : GF h₀ L s.heap ta ia i σ) (N : News h₀ L s.heap news) (X : (KF w.params).In h₀) (T : Top p loose mean mg mb h₀)
    (H : ∀ D t' h' tk, GF h₀ L h' ta ia i σ → News h₀ L h' ((D, { cls := .type "tuple", data := .seq #[σ.sp, .str (msg m742 σ.text) t'] }) :: news) → (∀ p ∈ news, p.1 < D) → Q (.ref D) { s with heap := h', toks := tk }) :
    wpAny (model (RowW.prog (OpenRow.toRowW (OpenLaw.row PySem.Challenge.rw_bd0046_01))) w) A (eval (yExpr ((ifBody ((ifBody (gl 7)).getD 0 default)).getD 0 default)) (gEnv L)) Q (fun _ _ => False) s := by
  conv => 
    arg 3
    arg 1
    whnf
  revert X; k_fill; intro X
  unfold gEnv
  obtain ⟨fd, seen, bd, prev, pp, text, sp, idn⟩ := σ
  obtain ⟨m, fdv, idv, psv, pty, pend, pln, tty, en, ln, t1, t2, t3, ti, F, hm, ho, hi⟩ := G
  dsimp only at *
  rw [map_or hm] at F
  unfold gents at F
  clear hm
  have hl1 : text.length ≤ 1 := avoid_len hav
  k_steps
  (rename News _ _ _ _ => N9)
  refine H _ _ _ _ (by tb_rel) N9 (by assumption)

theorem e8 (hav : avoid σ.text = true) (G : GF h₀ L s.heap ta ia i σ) (N : News h₀ L s.heap news) (X : (KF w.params).In h₀) (T : Top p loose mean mg mb h₀)
    (H : ∀ D t' h' tk, GF h₀ L h' ta ia i σ → News h₀ L h' ((D, { cls := .type "tuple", data := .seq #[σ.sp, .str (msg m743 σ.text) t'] }) :: news) → (∀ p ∈ news, p.1 < D) → Q (.ref D) { s with heap := h', toks := tk }) :
    wpAny (model (RowW.prog (OpenRow.toRowW (OpenLaw.row PySem.Challenge.rw_bd0046_01))) w) A (eval (yExpr ((ifBody ((ifBody (gl 8)).getD 0 default)).getD 0 default)) (gEnv L)) Q (fun _ _ => False) s := by
  conv => 
    arg 3
    arg 1
    whnf
  revert X; k_fill; intro X
  unfold gEnv
  obtain ⟨fd, seen, bd, prev, pp, text, sp, idn⟩ := σ
  obtain ⟨m, fdv, idv, psv, pty, pend, pln, tty, en, ln, t1, t2, t3, ti, F, hm, ho, hi⟩ := G
  dsimp only at *
  rw [map_or hm] at F
  unfold gents at F
  clear hm
  have hl1 : text.length ≤ 1 := avoid_len hav
  k_steps
  (rename News _ _ _ _ => N9)
  refine H _ _ _ _ (by tb_rel) N9 (by assumption)

theorem e9 {x : Str} {v : Value} (hid : σ.idn = some (x, v)) (hav : avoid x = true) (G : GF h₀ L s.heap ta ia i σ) (N : News h₀ L s.heap news) (X : (KF w.params).In h₀) (T : Top p loose mean mg mb h₀)
    (H : ∀ D t' h' tk, GF h₀ L h' ta ia i σ → News h₀ L h' ((D, { cls := .type "tuple", data := .seq #[v, .str (msg m741 x) t'] }) :: news) → (∀ p ∈ news, p.1 < D) → Q (.ref D) { s with heap := h', toks := tk }) :
    wpAny (model (RowW.prog (OpenRow.toRowW (OpenLaw.row PySem.Challenge.rw_bd0046_01))) w) A (eval (yExpr ((ifBody (gl 9)).getD 0 default)) (gEnv L)) Q (fun _ _ => False) s := by
  conv => 
    arg 3
    arg 1
    whnf
  revert X; k_fill; intro X
  unfold gEnv
  obtain ⟨fd, seen, bd, prev, pp, text, sp, idn⟩ := σ
  obtain ⟨m, fdv, idv, psv, pty, pend, pln, tty, en, ln, t1, t2, t3, ti, F, hm, ho, hi⟩ := G
  dsimp only at *
  rw [map_or hm] at F
  unfold gents at F
  clear hm
  subst hid
  cases hi
  have hl1 : x.length ≤ 1 := avoid_len hav
  k_steps
  (rename News _ _ _ _ => N9)
  refine H _ _ _ _ (by tb_rel) N9 (by assumption)

theorem t7a {Q : Bool → Shared → Prop} {u1 u2 u3 : Tok} (G : GF h₀ L s.heap ta ia i σ) (N : News h₀ L s.heap ((ia, { cls := .type "tuple", data := .seq #[.str "l" u1, .str "O" u2, .str "I" u3] }) :: news)) (X : (KF w.params).In h₀) (T : Top p loose mean mg mb h₀)
    (H : ∀ h' tk, GF h₀ L h' ta ia i σ → News h₀ L h' ((ia, { cls := .type "tuple", data := .seq #[.str "l" u1, .str "O" u2, .str "I" u3] }) :: news) → Q (σ.prev == ("class" : Str)) { s with heap := h', toks := tk }) :
    wpAny (model (RowW.prog (OpenRow.toRowW (OpenLaw.row PySem.Challenge.rw_bd0046_01))) w) A (isTrue (ifTest (gl 7)) (gEnv L) (eval (ifTest (gl 7)) (gEnv L))) Q (fun _ _ => False) s := by
  conv => 
    arg 3
    arg 1
    whnf
  conv => 
    arg 3
    arg 3
    arg 1
    whnf
  revert X; k_fill; intro X
  unfold gEnv
  obtain ⟨fd, seen, bd, prev, pp, text, sp, idn⟩ := σ
  obtain ⟨m, fdv, idv, psv, pty, pend, pln, tty, en, ln, t1, t2, t3, ti, F, hm, ho, hi⟩ := G
  dsimp only at *
  rw [map_or hm] at F
  unfold gents at F
  clear hm
  k_steps
  exact H _ _ (by tb_rel) (by assumption)

theorem t7b {Q : Bool → Shared → Prop} {u1 u2 u3 : Tok} (G : GF h₀ L s.heap ta ia i σ) (N : News h₀ L s.heap ((ia, { cls := .type "tuple", data := .seq #[.str "l" u1, .str "O" u2, .str "I" u3] }) :: news)) (X : (KF w.params).In h₀) (T : Top p loose mean mg mb h₀)
    (H : ∀ h' tk, GF h₀ L h' ta ia i σ → News h₀ L h' ((ia, { cls := .type "tuple", data := .seq #[.str "l" u1, .str "O" u2, .str "I" u3] }) :: news) → Q (avoid σ.text) { s with heap := h', toks := tk }) :
    wpAny (model (RowW.prog (OpenRow.toRowW (OpenLaw.row PySem.Challenge.rw_bd0046_01))) w) A (isTrue (ifTest ((ifBody (gl 7)).getD 0 default)) (gEnv L) (eval (ifTest ((ifBody (gl 7)).getD 0 default)) (gEnv L))) Q (fun _ _ => False) s := by
  conv => 
    arg 3
    arg 1
    whnf
  conv => 
    arg 3
    arg 3
    arg 1
    whnf
  revert X; k_fill; intro X
  unfold gEnv
  obtain ⟨fd, seen, bd, prev, pp, text, sp, idn⟩ := σ
  obtain ⟨m, fdv, idv, psv, pty, pend, pln, tty, en, ln, t1, t2, t3, ti, F, hm, ho, hi⟩ := G
  dsimp only at *
  rw [map_or hm] at F
  unfold gents at F
  clear hm
  k_steps
  exact H _ _ (by tb_rel) (by assumption)

theorem t8a {Q : Bool → Shared → Prop} {u1 u2 u3 : Tok} (G : GF h₀ L s.heap ta ia i σ) (N : News h₀ L s.heap ((ia, { cls := .type "tuple", data := .seq #[.str "l" u1, .str "O" u2, .str "I" u3] }) :: news)) (X : (KF w.params).In h₀) (T : Top p loose mean mg mb h₀)
    (H : ∀ h' tk, GF h₀ L h' ta ia i σ → News h₀ L h' ((ia, { cls := .type "tuple", data := .seq #[.str "l" u1, .str "O" u2, .str "I" u3] }) :: news) → Q (σ.prev == ("def" : Str)) { s with heap := h', toks := tk }) :
    wpAny (model (RowW.prog (OpenRow.toRowW (OpenLaw.row PySem.Challenge.rw_bd0046_01))) w) A (isTrue (ifTest (gl 8)) (gEnv L) (eval (ifTest (gl 8)) (gEnv L))) Q (fun _ _ => False) s := by
  conv => 
    arg 3
    arg 1
    whnf
  conv => 
    arg 3
    arg 3
    arg 1
    whnf
  revert X; k_fill; intro X
  unfold gEnv
  obtain ⟨fd, seen, bd, prev, pp, text, sp, idn⟩ := σ
  obtain ⟨m, fdv, idv, psv, pty, pend, pln, tty, en, ln, t1, t2, t3, ti, F, hm, ho, hi⟩ := G
  dsimp only at *
  rw [map_or hm] at F
  unfold gents at F
  clear hm
  k_steps
  exact H _ _ (by tb_rel) (by assumption)

theorem t8b {Q : Bool → Shared → Prop} {u1 u2 u3 : Tok} (G : GF h₀ L s.heap ta ia i σ) (N : News h₀ L s.heap ((ia, { cls := .type "tuple", data := .seq #[.str "l" u1, .str "O" u2, .str "I" u3] }) :: news)) (X : (KF w.params).In h₀) (T : Top p loose mean mg mb h₀)
    (H : ∀ h' tk, GF h₀ L h' ta ia i σ → News h₀ L h' ((ia, { cls := .type "tuple", data := .seq #[.str "l" u1, .str "O" u2, .str "I" u3] }) :: news) → Q (avoid σ.text) { s with heap := h', toks := tk }) :
    wpAny (model (RowW.prog (OpenRow.toRowW (OpenLaw.row PySem.Challenge.rw_bd0046_01))) w) A (isTrue (ifTest ((ifBody (gl 8)).getD 0 default)) (gEnv L) (eval (ifTest ((ifBody (gl 8)).getD 0 default)) (gEnv L))) Q (fun _ _ => False) s := by
  conv => 
    arg 3
    arg 1
    whnf
  conv => 
    arg 3
    arg 3
    arg 1
    whnf
  revert X; k_fill; intro X
  unfold gEnv
  obtain ⟨fd, seen, bd, prev, pp, text, sp, idn⟩ := σ
  obtain ⟨m, fdv, idv, psv, pty, pend, pln, tty, en, ln, t1, t2, t3, ti, F, hm, ho, hi⟩ := G
  dsimp only at *
  rw [map_or hm] at F
  unfold gents at F
  clear hm
  k_steps
  exact H _ _ (by tb_rel) (by assumption)

theorem t9 {Q : Bool → Shared → Prop} (hav : ∀ x v, σ.idn = some (x, v) → avoid x = true) (G : GF h₀ L s.heap ta ia i σ) (N : News h₀ L s.heap news) (X : (KF w.params).In h₀) (T : Top p loose mean mg mb h₀)
    (H : ∀ h' tk, GF h₀ L h' ta ia i σ → News h₀ L h' news → Q σ.idn.isSome { s with heap := h', toks := tk }) :
    wpAny (model (RowW.prog (OpenRow.toRowW (OpenLaw.row PySem.Challenge.rw_bd0046_01))) w) A (isTrue (ifTest (gl 9)) (gEnv L) (eval (ifTest (gl 9)) (gEnv L))) Q (fun _ _ => False) s := by
  conv => 
    arg 3
    arg 1
    whnf
  conv => 
    arg 3
    arg 3
    arg 1
    whnf
  revert X; k_fill; intro X
  unfold gEnv
  obtain ⟨fd, seen, bd, prev, pp, text, sp, idn⟩ := σ
  obtain ⟨m, fdv, idv, psv, pty, pend, pln, tty, en, ln, t1, t2, t3, ti, F, hm, ho, hi⟩ := G
  dsimp only at *
  rw [map_or hm] at F
  unfold gents at F
  clear hm
  cases hi with
  | none =>
    dsimp only [Option.isSome] at H
    k_steps
    all_goals exact H _ _ (by tb_rel) (by assumption)
  | some x t =>
    dsimp only [Option.isSome] at H
    have hl1 : 1 ≤ x.length := avoid_len1 (hav x psv rfl)
    have hl2 : x.length ≤ 1 := avoid_len (hav x psv rfl)
    k_steps
    have e9 : ((x.length : Int) != 0) = true := by rw [bne_iff_ne]; omega
    rw [e9]
    exact H _ _ (by tb_rel) (by assumption)

theorem g10 {Q : Flow → Shared → Prop} (G : GF h₀ L s.heap ta ia i σ) (N : News h₀ L s.heap news) (X : (KF w.params).In h₀) (T : Top p loose mean mg mb h₀)
    (H : ∀ h' tk, GF h₀ L h' ta ia i { σ with prev := σ.text } → News h₀ L h' news → Q .next { s with heap := h', toks := tk }) :
    wpAny (model (RowW.prog (OpenRow.toRowW (OpenLaw.row PySem.Challenge.rw_bd0046_01))) w) A (exec (gl 10) (gEnv L)) Q (fun _ _ => False) s := by
  conv => 
    arg 3
    arg 1
    whnf
  revert X; k_fill; intro X
  unfold gEnv
  obtain ⟨fd, seen, bd, prev, pp, text, sp, idn⟩ := σ
  obtain ⟨m, fdv, idv, psv, pty, pend, pln, tty, en, ln, t1, t2, t3, ti, F, hm, ho, hi⟩ := G
  dsimp only at *
  rw [map_or hm] at F
  unfold gents at F
  clear hm
  k_steps
  exact H _ _ (by tb_rel) (by assumption)

theorem g11 {Q : Flow → Shared → Prop} (G : GF h₀ L s.heap ta ia i σ) (N : News h₀ L s.heap news) (X : (KF w.params).In h₀) (T : Top p loose mean mg mb h₀)
    (H : ∀ h' tk, GF h₀ L h' ta ia i { σ with pp := σ.sp } → News h₀ L h' news → Q .next { s with heap := h', toks := tk }) :
    wpAny (model (RowW.prog (OpenRow.toRowW (OpenLaw.row PySem.Challenge.rw_bd0046_01))) w) A (exec (gl 11) (gEnv L)) Q (fun _ _ => False) s := by
  conv => 
    arg 3
    arg 1
    whnf
  revert X; k_fill; intro X
  unfold gEnv
  obtain ⟨fd, seen, bd, prev, pp, text, sp, idn⟩ := σ
  obtain ⟨m, fdv, idv, psv, pty, pend, pln, tty, en, ln, t1, t2, t3, ti, F, hm, ho, hi⟩ := G
  dsimp only at *
  rw [map_or hm] at F
  unfold gents at F
  clear hm
  k_steps
  exact H _ _ (by tb_rel) (by assumption)

end
end Mine

end
section
open PySem PySem.W PySem.W.X PyProof.Rows PySem.Calls
namespace Mine

/-! rules for a generator's own frames, over the library's SegX -/
section
variable {M : Model} {A : Around} {c : Code} {fs : List Frame} {s : Shared} {P : End → Shared → Prop} {env : Env}
theorem sx_wrap {α : Type} {m : Sem α} {K : α → Sem Fin} {H : Value → Sem Fin} {gd lv}
    (h : wpAny M (A.over c fs) m (fun a s' => SegX M A c (K a) fs s' P) (fun x s' => SegX M A c (H x) fs s' P) s) : SegX M A c (m.wrap K H gd lv) fs s P := by
  rintro Γ p rfl hΓ
  obtain ⟨e, s', hr, hq⟩ := runs_wrap_of_wp (Φ := fun e s' => e.quiet = true ∧ P e s') K H gd lv m (h (Γ.over fs) p (hΓ.over fs)) (fun a p' s' h' => h' Γ p' rfl hΓ) (fun x p' s' h' => h' Γ p' rfl hΓ)
  exact ⟨e, s', hr, hq⟩
theorem sx_at {p' : Pos} {k : Unit → Sem Fin} (h : SegX M A c (k ()) fs s P) : SegX M A c (.at p' k) fs s P :=
  sx_wrap (m := standAt p') (K := k) (H := .raise) (gd := id) (lv := id) (wpAny_standAt h)
theorem sx_point {l : List Value} {k : Unit → Sem Fin} (h : SegX M A c (k ()) fs s P) : SegX M A c (.point l k) fs s P :=
  sx_wrap (m := point) (K := k) (H := .raise) (gd := id) (lv := fun _ => l) (wpAny_point h)
theorem sx_nil {K : Flow → Sem Fin} {H : Value → Sem Fin} {gd lv} (h : SegX M A c (K .next) fs s P) : SegX M A c ((execs [] env).wrap K H gd lv) fs s P := h
theorem sx_cons {st : Stmt} {rest : List Stmt} {K : Flow → Sem Fin} {H : Value → Sem Fin} {gd lv}
    (h : SegX M A c ((exec st env).wrap (fun f => match f with | .next => (execs rest env).wrap K H gd lv | f => K f) H gd lv) fs s P) : SegX M A c ((execs (st :: rest) env).wrap K H gd lv) fs s P := by
  rw [execs_cons_wrap]; exact h
/-- a statement without a yield, then the rest -/
theorem sx_step {st : Stmt} {rest : List Stmt} {K : Flow → Sem Fin} {H : Value → Sem Fin} {gd lv}
    (h : wpAny M (A.over c fs) (exec st env) (fun f s' => f = .next ∧ SegX M A c ((execs rest env).wrap K H gd lv) fs s' P) (fun _ _ => False) s) : SegX M A c ((execs (st :: rest) env).wrap K H gd lv) fs s P := by
  refine sx_cons (sx_wrap (wpAny_mono h (fun f s' hf => ?_) fun _ _ x => x.elim))
  obtain ⟨rfl, hf⟩ := hf
  exact hf
theorem sx_If {test : Expr} {body orelse : List Stmt} {pos : Pos} {K : Flow → Sem Fin} {H : Value → Sem Fin} {gd lv}
    (h : wpAny M (A.over c fs) (isTrue test env (eval test env)) (fun b s' => SegX M A c ((if b = true then execs body env else execs orelse env).wrap K H gd lv) fs s' P) (fun _ _ => False) s) :
    SegX M A c ((exec (.If test body orelse pos) env).wrap K H gd lv) fs s P := by
  rw [exec_If]
  refine sx_at ?_
  show SegX M A c ((isTrue test env (eval test env) >>= fun b => if b = true then execs body env else execs orelse env).wrap K H gd lv) fs s P
  rw [Sem.bind_eq_wrap', Sem.wrap_wrap]
  exact sx_wrap (wpAny_mono h (fun b s' hb => hb) fun _ _ x => x.elim)
theorem sx_Yield {e : Expr} {ypos pos : Pos} {K : Flow → Sem Fin} {H : Value → Sem Fin} {gd : Bool → Bool} {lv} (hfs : splitAtGen fs = none) (hgd : gd false = false) (hfg : fs.any Frame.guarded = false)
    (h : wpAny M (A.over c fs) (eval e env) (fun v s' => ∀ (l : List Value) (k : Resume → Sem Fin) (p : Pos), k (.send .none) = K .next → P (.susp v false l k c p fs) s') (fun _ _ => False) s)
    (hco : env.scope.isCoroutine = false) (hi : interactive env = false) :
    SegX M A c ((exec (.Expr (.Yield (some e) ypos) pos) env).wrap K H gd lv) fs s P := by
  rw [exec_Expr env _ pos hi rfl]
  show SegX M A c (.at pos fun _ => ((eval e env >>= fun v => (standAt ypos >>= fun _ => yieldOut env v)) >>= fun x =>
    dropValue (.Yield (some e) ypos) pos x).wrap K H gd lv) fs s P
  have hy : ∀ v, yieldOut env v = yieldValue v := fun v => by simp only [yieldOut, hco, Bool.false_eq_true, if_false]
  simp only [hy]
  refine sx_at ?_
  rw [Sem.bind_eq_wrap', Sem.bind_eq_wrap', Sem.wrap_wrap, Sem.wrap_wrap]
  refine sx_wrap (wpAny_mono h (fun v s' h' => ?_) fun _ _ x => x.elim)
  refine sx_at ?_
  rintro Γ p rfl _
  refine ⟨_, s', Runs.yield' fs hfs, ?_, ?_⟩
  · simp [End.quiet, hfg, hgd]
  · simp only [hgd, id]
    exact h' _ _ p rfl
theorem sx_mono {t : Sem Fin} {P' : End → Shared → Prop} (x : SegX M A c t fs s P) (h : ∀ e s', P e s' → P' e s') : SegX M A c t fs s P' := SegX.mono x h
end
end Mine

end
section
open PySem PySem.W PySem.W.X PyProof.Rows PySem.Calls
namespace Mine

/-- what a generator hands out: a new pair of the place and the text -/
def OkTup (L : Addr) (h : Heap) (v : Value) (o : Value × Str) : Prop := ∃ D t', v = .ref D ∧ D ≠ L ∧ h.get? D = some { cls := .type "tuple", data := .seq #[o.1, .str o.2 t'] }
/-- nothing is changed but the frame at L and iterators over ranges -/
def Kept (g : Heap) (L : Addr) (s s' : Shared) : Prop :=
  (∃ h tk, s' = { s with heap := h, toks := tk }) ∧ (∀ b o, b ≠ L → o.cls ≠ .type "range_iterator" → s.heap.get? b = some o → s'.heap.get? b = some o) ∧ ∀ b o, g.get? b = some o → s.heap.get? b = some o → s'.heap.get? b = some o
/-- between two wakings nothing is changed but the list D -/
def Later (D : Addr) (s s' : Shared) : Prop := ∀ b o, b ≠ D → s.heap.get? b = some o → s'.heap.get? b = some o
/-- from here the generator hands out these, one after the other, and ends -/
def PY (M : Model) (A : Around) (g : Heap) (L D : Addr) : List (Value × Str) → Shared → End → Shared → Prop
  | [], s₀ => fun e s' => e = .ret (.ok (.ret .none)) ∧ Kept g L s₀ s'
  | o :: os, s₀ => fun e s' => match e with
    | .susp v _ _ k c _ fs => OkTup L s'.heap v o ∧ Kept g L s₀ s' ∧ ∀ s'', Later D s' s'' → SegX M A c (k (.send .none)) fs s'' (PY M A g L D os s'')
    | _ => False

section
variable {M : Model} {A : Around} {c : Code} {fs : List Frame} {s₀ s : Shared} {env : Env} {g : Heap} {L D : Addr}
theorem sx_IfYield {t e : Expr} {yp ep p : Pos} {K : Flow → Sem Fin} {H : Value → Sem Fin} {gd : Bool → Bool} {lv} {b : Bool} {o : Value × Str} {os : List (Value × Str)} (Inv Inv' : Shared → Shared → Prop)
    (hfs : splitAtGen fs = none) (hgd : gd false = false) (hfg : fs.any Frame.guarded = false) (hco : env.scope.isCoroutine = false) (hi : interactive env = false)
    (hs : Inv s₀ s)
    (ht : ∀ s₀ s, Inv s₀ s → wpAny M (A.over c fs) (isTrue t env (eval t env)) (fun b' s' => b' = b ∧ Inv s₀ s') (fun _ _ => False) s)
    (he : b = true → ∀ s₀ s, Inv s₀ s → wpAny M (A.over c fs) (eval e env) (fun v s' => Inv s₀ s' ∧ OkTup L s'.heap v o) (fun _ _ => False) s)
    (hl : ∀ s₀ s s', Inv s₀ s → Later D s s' → Inv s' s') (hk : ∀ s₀ s, Inv s₀ s → Kept g L s₀ s)
    (next : ∀ s₀ s, Inv s₀ s → SegX M A c (K .next) fs s (PY M A g L D os s₀)) :
    SegX M A c ((exec (.If t [.Expr (.Yield (some e) yp) ep] [] p) env).wrap K H gd lv) fs s (PY M A g L D ((if b = true then [o] else []) ++ os) s₀) := by
  let _ := Inv'
  refine sx_If (wpAny_mono (ht s₀ s hs) (fun b' s' hb => ?_) fun _ _ x => x)
  obtain ⟨rfl, hI⟩ := hb
  cases b' with
  | false =>
    rw [if_neg Bool.false_ne_true, if_neg Bool.false_ne_true, List.nil_append]
    exact sx_nil (next s₀ s' hI)
  | true =>
    rw [if_pos rfl, if_pos rfl]
    refine sx_cons (sx_Yield hfs hgd hfg (wpAny_mono (he rfl s₀ s' hI) (fun v s₂ h₂ => ?_) fun _ _ x => x) hco hi)
    intro l k p hkp
    refine ⟨h₂.2, hk _ _ h₂.1, fun s₃ h₃ => ?_⟩
    rw [hkp]
    exact sx_nil (next s₃ s₃ (hl _ _ _ h₂.1 h₃))
theorem sx_IfIfYield {t1 t e : Expr} {yp ep p p1 : Pos} {K : Flow → Sem Fin} {H : Value → Sem Fin} {gd : Bool → Bool} {lv} {b1 b : Bool} {o : Value × Str} {os : List (Value × Str)} (Inv : Shared → Shared → Prop)
    (hfs : splitAtGen fs = none) (hgd : gd false = false) (hfg : fs.any Frame.guarded = false) (hco : env.scope.isCoroutine = false) (hi : interactive env = false)
    (hs : Inv s₀ s)
    (ht1 : ∀ s₀ s, Inv s₀ s → wpAny M (A.over c fs) (isTrue t1 env (eval t1 env)) (fun b' s' => b' = b1 ∧ Inv s₀ s') (fun _ _ => False) s)
    (ht : ∀ s₀ s, Inv s₀ s → wpAny M (A.over c fs) (isTrue t env (eval t env)) (fun b' s' => b' = b ∧ Inv s₀ s') (fun _ _ => False) s)
    (he : b = true → ∀ s₀ s, Inv s₀ s → wpAny M (A.over c fs) (eval e env) (fun v s' => Inv s₀ s' ∧ OkTup L s'.heap v o) (fun _ _ => False) s)
    (hl : ∀ s₀ s s', Inv s₀ s → Later D s s' → Inv s' s') (hk : ∀ s₀ s, Inv s₀ s → Kept g L s₀ s)
    (next : ∀ s₀ s, Inv s₀ s → SegX M A c (K .next) fs s (PY M A g L D os s₀)) :
    SegX M A c ((exec (.If t1 [.If t [.Expr (.Yield (some e) yp) ep] [] p] [] p1) env).wrap K H gd lv) fs s (PY M A g L D ((if (b1 && b) = true then [o] else []) ++ os) s₀) := by
  refine sx_If (wpAny_mono (ht1 s₀ s hs) (fun b' s' hb => ?_) fun _ _ x => x)
  obtain ⟨rfl, hI⟩ := hb
  cases b' with
  | false =>
    rw [if_neg Bool.false_ne_true, Bool.false_and, if_neg Bool.false_ne_true, List.nil_append]
    exact sx_nil (next s₀ s' hI)
  | true =>
    rw [if_pos rfl, Bool.true_and]
    exact sx_cons (sx_IfYield (K := fun f => match f with | .next => (execs [] env).wrap K H gd lv | f => K f) Inv Inv hfs hgd hfg hco hi hI ht he hl hk fun s₀ s h => sx_nil (next s₀ s h))
end

/-- the objects of a heap that are no base's, no frame's and no iterators over ranges -/
def oth (g : Heap) (L : Addr) (h : Heap) : List (Addr × Obj) :=
  (List.range h.objs.size).filterMap fun b => match h.get? b with
    | some o => if b ≠ L ∧ o.cls ≠ .type "range_iterator" ∧ (g.get? b).isNone = true then some (b, o) else none
    | none => none
theorem mem_oth {g h : Heap} {L b : Addr} {o : Obj} (e : h.get? b = some o) (h1 : b ≠ L) (h2 : o.cls ≠ .type "range_iterator") (h3 : g.get? b = none) : (b, o) ∈ oth g L h := by
  refine List.mem_filterMap.mpr ⟨b, List.mem_range.mpr (Heap.lt_size e), ?_⟩
  simp only [e]
  rw [if_pos ⟨h1, h2, by rw [h3]; rfl⟩]
theorem of_oth {g h : Heap} {L : Addr} {p : Addr × Obj} (m : p ∈ oth g L h) : h.get? p.1 = some p.2 ∧ p.1 ≠ L ∧ g.get? p.1 = none ∧ p.2.cls ≠ .type "range_iterator" := by
  obtain ⟨b, _, e⟩ := List.mem_filterMap.mp m
  split at e
  · rename_i o ho
    split at e
    · rename_i c
      cases e
      refine ⟨ho, c.1, ?_, c.2.1⟩
      cases q : g.get? b with
      | none => rfl
      | some _ => rw [q] at c; exact absurd c.2.2 (by simp)
    · cases e
  · cases e
theorem news_oth (g h : Heap) (L : Addr) : News g L h (oth g L h) := fun _ hp => let ⟨a, b, c, _⟩ := of_oth hp; ⟨a, b, c⟩
theorem kept_of {g : Heap} {L : Addr} {s s' : Shared} {m' : Str → Option Value} {news : List (Addr × Obj)} (B : ∀ b o, g.get? b = some o → s.heap.get? b = some o) (F' : Fr g L s'.heap m') (N : News g L s'.heap news) (hn : ∀ p ∈ oth g L s.heap, p ∈ news)
    (hs : ∃ h tk, s' = { s with heap := h, toks := tk }) : Kept g L s s' := by
  refine ⟨hs, fun b o h1 h2 e => ?_, fun b o e _ => F'.keep b o e⟩
  cases q : g.get? b with
  | none => exact (N _ (hn _ (mem_oth e h1 h2 q))).1
  | some o' =>
    have e1 := B b o' q
    rw [e] at e1
    cases e1
    exact F'.keep b o q
theorem Kept.refl (g : Heap) (L : Addr) (s : Shared) : Kept g L s s := ⟨⟨s.heap, s.toks, rfl⟩, fun _ _ _ _ e => e, fun _ _ _ e => e⟩
theorem fr_later {g h h' : Heap} {L D : Addr} {m : Str → Option Value} (F : Fr g L h m) (hk : ∀ b o, b ≠ D → h.get? b = some o → h'.get? b = some o) (hL : L ≠ D) (hD : g.get? D = none) : Fr g L h' m :=
  ⟨F.ns.at' fun o e => hk L o hL e, fun b o e => hk b o (fun q => by rw [q, hD] at e; cases e) (F.keep b o e), F.above⟩
end Mine

end
section
open PySem PySem.W PySem.W.X PyProof.Rows PySem.Calls
set_option maxHeartbeats 4000000
namespace Mine

def outs7 (σ : TS) : List (Value × Str) := if ((σ.prev == ("class" : Str)) && avoid σ.text) = true then [(σ.sp, msg m742 σ.text)] else []
def outs8 (σ : TS) : List (Value × Str) := if ((σ.prev == ("def" : Str)) && avoid σ.text) = true then [(σ.sp, msg m743 σ.text)] else []
def outs9 (σ : TS) : List (Value × Str) := if σ.idn.isSome = true then [((σ.idn.getD (("" : Str), .none)).2, msg m741 (σ.idn.getD (("" : Str), .none)).1)] else []
def gturn (nxt : Option Str) (σ : TS) : TS := f6 nxt (f5 (f4 (f3 (f2 σ))))
/-- what the generator hands out from a place in the list of tokens on -/
def grun : Option Int → Bool → Int → Str → Value → List TK → List (Value × Str)
  | _, _, _, _, _, [] => []
  | fd, seen, bd, prev, pp, t :: rest =>
    outs7 (gturn (rest.head?.map (·.text)) ⟨fd, seen, bd, prev, pp, t.text, t.sv, none⟩) ++ (outs8 (gturn (rest.head?.map (·.text)) ⟨fd, seen, bd, prev, pp, t.text, t.sv, none⟩) ++ (outs9 (gturn (rest.head?.map (·.text)) ⟨fd, seen, bd, prev, pp, t.text, t.sv, none⟩) ++
      grun (gturn (rest.head?.map (·.text)) ⟨fd, seen, bd, prev, pp, t.text, t.sv, none⟩).fd (gturn (rest.head?.map (·.text)) ⟨fd, seen, bd, prev, pp, t.text, t.sv, none⟩).seen (gturn (rest.head?.map (·.text)) ⟨fd, seen, bd, prev, pp, t.text, t.sv, none⟩).bd t.text t.sv rest))

theorem f2_same (σ : TS) : (f2 σ).prev = σ.prev ∧ (f2 σ).pp = σ.pp ∧ (f2 σ).text = σ.text ∧ (f2 σ).sp = σ.sp ∧ (f2 σ).idn = σ.idn := by unfold f2; split <;> (try split) <;> exact ⟨rfl, rfl, rfl, rfl, rfl⟩
theorem f3_same (σ : TS) : (f3 σ).prev = σ.prev ∧ (f3 σ).pp = σ.pp ∧ (f3 σ).text = σ.text ∧ (f3 σ).sp = σ.sp ∧ (f3 σ).idn = σ.idn := by unfold f3; split <;> (try split) <;> exact ⟨rfl, rfl, rfl, rfl, rfl⟩
theorem f4_same (σ : TS) : (f4 σ).prev = σ.prev ∧ (f4 σ).pp = σ.pp ∧ (f4 σ).text = σ.text ∧ (f4 σ).sp = σ.sp := by unfold f4; split <;> exact ⟨rfl, rfl, rfl, rfl⟩
theorem f5_same (σ : TS) : (f5 σ).prev = σ.prev ∧ (f5 σ).pp = σ.pp ∧ (f5 σ).text = σ.text ∧ (f5 σ).sp = σ.sp := by unfold f5; split <;> exact ⟨rfl, rfl, rfl, rfl⟩
theorem f6_same (n : Option Str) (σ : TS) : (f6 n σ).prev = σ.prev ∧ (f6 n σ).pp = σ.pp ∧ (f6 n σ).text = σ.text ∧ (f6 n σ).sp = σ.sp := by unfold f6; split <;> exact ⟨rfl, rfl, rfl, rfl⟩
def IdOk (σ : TS) : Prop := ∀ x v, σ.idn = some (x, v) → avoid x = true
theorem f4_ok {σ : TS} (h : IdOk σ) : IdOk (f4 σ) := by
  unfold f4
  split
  · rename_i c
    intro x v e
    cases e
    exact (Bool.and_eq_true_iff.mp c).2
  · exact h
theorem f5_ok {σ : TS} (h : IdOk σ) : IdOk (f5 σ) := by
  unfold f5
  split
  · rename_i c
    intro x v e
    cases e
    exact (Bool.and_eq_true_iff.mp c).2
  · exact h
theorem f6_ok {n : Option Str} {σ : TS} (h : IdOk σ) : IdOk (f6 n σ) := by
  unfold f6
  split
  · rename_i c
    intro x v e
    cases e
    exact (Bool.and_eq_true_iff.mp c).2
  · exact h
theorem gturn_ok {n : Option Str} {σ : TS} (h : σ.idn = none) : IdOk (gturn n σ) := by
  refine f6_ok (f5_ok (f4_ok ?_))
  intro x v e
  rw [(f3_same _).2.2.2.2, (f2_same _).2.2.2.2, h] at e
  cases e
theorem gturn_same (n : Option Str) (σ : TS) : (gturn n σ).prev = σ.prev ∧ (gturn n σ).pp = σ.pp ∧ (gturn n σ).text = σ.text ∧ (gturn n σ).sp = σ.sp := by
  unfold gturn
  refine ⟨?_, ?_, ?_, ?_⟩
  · rw [(f6_same _ _).1, (f5_same _).1, (f4_same _).1, (f3_same _).1, (f2_same _).1]
  · rw [(f6_same _ _).2.1, (f5_same _).2.1, (f4_same _).2.1, (f3_same _).2.1, (f2_same _).2.1]
  · rw [(f6_same _ _).2.2.1, (f5_same _).2.2.1, (f4_same _).2.2.1, (f3_same _).2.2.1, (f2_same _).2.2.1]
  · rw [(f6_same _ _).2.2.2, (f5_same _).2.2.2, (f4_same _).2.2.2, (f3_same _).2.2.2.1, (f2_same _).2.2.2.1]

abbrev idsOf (u1 u2 u3 : Tok) : Obj := { cls := .type "tuple", data := .seq #[.str "l" u1, .str "O" u2, .str "I" u3] }
abbrev riOf (x left : Int) : Obj := { cls := .type "range_iterator", dict := none, data := .fields #[rawInt x, rawInt left, rawInt 1], slots := #[] }

/-- what stands still while the generator is driven -/
structure GCst (w : World) (g : Heap) (L D ta ia I : Addr) (tks : List TK) (p : Program) (loose : List Str) (mg mb : Str → Option Value) (mean : ExcName → Option Value) : Prop where
  X : (KF w.params).In g
  T : Top p loose mean mg mb g
  Y : ToksIn g ta tks
  LD : L ≠ D
  gD : g.get? D = none
  iaD : ia ≠ D
  ID : I ≠ D
  iaI : ia ≠ I

def TInv (g : Heap) (L ta ia I : Addr) (u1 u2 u3 : Tok) (i x left : Int) (σ : TS) (s₀ s : Shared) : Prop :=
  (∃ h tk, s = { s₀ with heap := h, toks := tk }) ∧ (∀ b o, g.get? b = some o → s₀.heap.get? b = some o) ∧ GF g L s.heap ta ia i σ ∧ News g L s.heap ((ia, idsOf u1 u2 u3) :: (I, riOf x left) :: oth g L s₀.heap)

section
variable {w : World} {g : Heap} {L D ta ia I : Addr} {tks : List TK} {p : Program} {loose : List Str} {mg mb : Str → Option Value} {mean : ExcName → Option Value} {u1 u2 u3 : Tok} {i x left : Int} {σ : TS} {s₀ s s' : Shared}
theorem TInv.kept (h : TInv g L ta ia I u1 u2 u3 i x left σ s₀ s) : Kept g L s₀ s := by
  obtain ⟨hs, B, ⟨m, _, _, _, _, _, _, _, _, _, _, _, _, _, F, _, _, _⟩, N⟩ := h
  exact kept_of B F N (fun p hp => .tail _ (.tail _ hp)) hs
theorem TInv.later (C : GCst w g L D ta ia I tks p loose mg mb mean) (h : TInv g L ta ia I u1 u2 u3 i x left σ s₀ s) (hl : Later D s s') : TInv g L ta ia I u1 u2 u3 i x left σ s' s' := by
  obtain ⟨hs, B, ⟨m, a1, a2, a3, a4, a5, a6, a7, a8, a9, b1, b2, b3, b4, F, r1, r2, r3⟩, N⟩ := h
  have F' := fr_later F hl C.LD C.gD
  refine ⟨⟨s'.heap, s'.toks, rfl⟩, F'.keep, ⟨m, a1, a2, a3, a4, a5, a6, a7, a8, a9, b1, b2, b3, b4, F', r1, r2, r3⟩, ?_⟩
  intro q hq
  rcases List.mem_cons.mp hq with rfl | hq
  · have z := N _ (.head _)
    exact ⟨hl _ _ C.iaD z.1, z.2⟩
  · rcases List.mem_cons.mp hq with rfl | hq
    · have z := N _ (.tail _ (.head _))
      exact ⟨hl _ _ C.ID z.1, z.2⟩
    · exact news_oth g s'.heap L q hq
theorem TInv.step {h' : Heap} {tk : Nat} {σ' : TS} (h : TInv g L ta ia I u1 u2 u3 i x left σ s₀ s) (G : GF g L h' ta ia i σ') (N : News g L h' ((ia, idsOf u1 u2 u3) :: (I, riOf x left) :: oth g L s₀.heap)) : TInv g L ta ia I u1 u2 u3 i x left σ' s₀ { s with heap := h', toks := tk } := by
  obtain ⟨⟨hh, tt, rfl⟩, B, _, _⟩ := h
  exact ⟨⟨h', tk, rfl⟩, B, G, N⟩
end
end Mine

end
section
open PySem PySem.W PySem.W.X PyProof.Rows PySem.Calls
set_option maxHeartbeats 4000000
namespace Mine

theorem gl7_eq : ∃ p1 p2 p3 p4, gl 7 = .If (ifTest (gl 7)) [.If (ifTest ((ifBody (gl 7)).getD 0 default)) [.Expr (.Yield (some (yExpr ((ifBody ((ifBody (gl 7)).getD 0 default)).getD 0 default))) p1) p2] [] p3] [] p4 := ⟨_, _, _, _, rfl⟩
theorem gl8_eq : ∃ p1 p2 p3 p4, gl 8 = .If (ifTest (gl 8)) [.If (ifTest ((ifBody (gl 8)).getD 0 default)) [.Expr (.Yield (some (yExpr ((ifBody ((ifBody (gl 8)).getD 0 default)).getD 0 default))) p1) p2] [] p3] [] p4 := ⟨_, _, _, _, rfl⟩
theorem gl9_eq : ∃ p1 p2 p3, gl 9 = .If (ifTest (gl 9)) [.Expr (.Yield (some (yExpr ((ifBody (gl 9)).getD 0 default))) p1) p2] [] p3 := ⟨_, _, _, rfl⟩
theorem gEnv_co (L : Addr) : (gEnv L).scope.isCoroutine = false := rfl
theorem gEnv_in (L : Addr) : interactive (gEnv L) = false := rfl

section
variable {w : World} {A : Around} {c : Code} {fs : List Frame} {g : Heap} {L D ta ia I : Addr} {tks : List TK} {p : Program} {loose : List Str} {mg mb : Str → Option Value} {mean : ExcName → Option Value} {u1 u2 u3 : Tok} {i x left : Int} {σ : TS} {s₀ s s' : Shared}
  {K : Flow → Sem Fin} {H : Value → Sem Fin} {gd : Bool → Bool} {lv : List Value → List Value}

theorem turn_tail {os : List (Value × Str)} (C : GCst w g L D ta ia I tks p loose mg mb mean) (hfs : splitAtGen fs = none) (hgd : gd false = false) (hfg : fs.any Frame.guarded = false)
    (hs : TInv g L ta ia I u1 u2 u3 i x left σ s₀ s) (hok : IdOk σ)
    (next : ∀ s₀ s, TInv g L ta ia I u1 u2 u3 i x left { σ with prev := σ.text, pp := σ.sp } s₀ s → SegX (model (RowW.prog (OpenRow.toRowW (OpenLaw.row PySem.Challenge.rw_bd0046_01))) w) A c (K .next) fs s (PY (model (RowW.prog (OpenRow.toRowW (OpenLaw.row PySem.Challenge.rw_bd0046_01))) w) A g L D os s₀)) :
    SegX (model (RowW.prog (OpenRow.toRowW (OpenLaw.row PySem.Challenge.rw_bd0046_01))) w) A c ((execs [gl 7, gl 8, gl 9, gl 10, gl 11] (gEnv L)).wrap K H gd lv) fs s (PY (model (RowW.prog (OpenRow.toRowW (OpenLaw.row PySem.Challenge.rw_bd0046_01))) w) A g L D (outs7 σ ++ (outs8 σ ++ (outs9 σ ++ os))) s₀) := by
  obtain ⟨p1, p2, p3, p4, e7'⟩ := gl7_eq
  obtain ⟨q1, q2, q3, q4, e8'⟩ := gl8_eq
  obtain ⟨r1, r2, r3, e9'⟩ := gl9_eq
  refine sx_cons ?_
  rw [e7']
  refine sx_IfIfYield (TInv g L ta ia I u1 u2 u3 i x left σ) hfs hgd hfg (gEnv_co L) (gEnv_in L) hs
    (fun s₀ s h => t7a h.2.2.1 h.2.2.2 C.X C.T fun h' tk G' N' => ⟨rfl, h.step G' N'⟩)
    (fun s₀ s h => t7b h.2.2.1 h.2.2.2 C.X C.T fun h' tk G' N' => ⟨rfl, h.step G' N'⟩)
    (fun hb s₀ s h => e7 hb h.2.2.1 h.2.2.2 C.X C.T fun D' t' h' tk G' N' lt => ⟨h.step G' fun p hp => N' p (.tail _ hp), D', t', rfl, (N' _ (.head _)).2.1, (N' _ (.head _)).1⟩)
    (fun s₀ s s' h hl => h.later C hl) (fun s₀ s h => h.kept) ?_
  intro s₀ s hs
  refine sx_cons ?_
  rw [e8']
  refine sx_IfIfYield (TInv g L ta ia I u1 u2 u3 i x left σ) hfs hgd hfg (gEnv_co L) (gEnv_in L) hs
    (fun s₀ s h => t8a h.2.2.1 h.2.2.2 C.X C.T fun h' tk G' N' => ⟨rfl, h.step G' N'⟩)
    (fun s₀ s h => t8b h.2.2.1 h.2.2.2 C.X C.T fun h' tk G' N' => ⟨rfl, h.step G' N'⟩)
    (fun hb s₀ s h => e8 hb h.2.2.1 h.2.2.2 C.X C.T fun D' t' h' tk G' N' lt => ⟨h.step G' fun p hp => N' p (.tail _ hp), D', t', rfl, (N' _ (.head _)).2.1, (N' _ (.head _)).1⟩)
    (fun s₀ s s' h hl => h.later C hl) (fun s₀ s h => h.kept) ?_
  intro s₀ s hs
  refine sx_cons ?_
  rw [e9']
  refine sx_IfYield (TInv g L ta ia I u1 u2 u3 i x left σ) (TInv g L ta ia I u1 u2 u3 i x left σ) hfs hgd hfg (gEnv_co L) (gEnv_in L) hs
    (fun s₀ s h => t9 hok h.2.2.1 h.2.2.2 C.X C.T fun h' tk G' N' => ⟨rfl, h.step G' N'⟩)
    (fun hb s₀ s h => ?_)
    (fun s₀ s s' h hl => h.later C hl) (fun s₀ s h => h.kept) ?_
  · obtain ⟨⟨y, v⟩, hy⟩ := Option.isSome_iff_exists.mp hb
    have e : σ.idn.getD (("" : Str), .none) = (y, v) := by rw [hy]; rfl
    rw [e]
    exact e9 hy (hok y v hy) h.2.2.1 h.2.2.2 C.X C.T fun D' t' h' tk G' N' lt => ⟨h.step G' fun p hp => N' p (.tail _ hp), D', t', rfl, (N' _ (.head _)).2.1, (N' _ (.head _)).1⟩
  intro s₀ s hs
  refine sx_step (g10 hs.2.2.1 hs.2.2.2 C.X C.T fun h' tk G' N' => ⟨rfl, ?_⟩)
  have hs' := hs.step (tk := tk) G' N'
  refine sx_step (g11 hs'.2.2.1 hs'.2.2.2 C.X C.T fun h' tk G' N' => ⟨rfl, ?_⟩)
  exact sx_nil (next s₀ _ (hs'.step G' N'))

theorem turn_mid {os : List (Value × Str)} (C : GCst w g L D ta ia I tks p loose mg mb mean) (hfs : splitAtGen fs = none) (hgd : gd false = false) (hfg : fs.any Frame.guarded = false) (h0 : 0 ≤ i) (h1 : i < tks.length)
    (hs : TInv g L ta ia I u1 u2 u3 i x left σ s₀ s) (hn : σ.idn = none)
    (next : ∀ s₀ s, TInv g L ta ia I u1 u2 u3 i x left { gturn ((tks[(i + 1).toNat]?).map (·.text)) σ with prev := (gturn ((tks[(i + 1).toNat]?).map (·.text)) σ).text, pp := (gturn ((tks[(i + 1).toNat]?).map (·.text)) σ).sp } s₀ s → SegX (model (RowW.prog (OpenRow.toRowW (OpenLaw.row PySem.Challenge.rw_bd0046_01))) w) A c (K .next) fs s (PY (model (RowW.prog (OpenRow.toRowW (OpenLaw.row PySem.Challenge.rw_bd0046_01))) w) A g L D os s₀)) :
    SegX (model (RowW.prog (OpenRow.toRowW (OpenLaw.row PySem.Challenge.rw_bd0046_01))) w) A c ((execs [gl 2, gl 3, gl 4, gl 5, gl 6, gl 7, gl 8, gl 9, gl 10, gl 11] (gEnv L)).wrap K H gd lv) fs s
      (PY (model (RowW.prog (OpenRow.toRowW (OpenLaw.row PySem.Challenge.rw_bd0046_01))) w) A g L D (outs7 (gturn ((tks[(i + 1).toNat]?).map (·.text)) σ) ++ (outs8 (gturn ((tks[(i + 1).toNat]?).map (·.text)) σ) ++ (outs9 (gturn ((tks[(i + 1).toNat]?).map (·.text)) σ) ++ os))) s₀) := by
  refine sx_step (g2 hs.2.2.1 hs.2.2.2 C.X C.T fun h' tk σ' e G' N' => ⟨rfl, ?_⟩)
  have a2 := hs.step (tk := tk) G' N'
  refine sx_step (g3 a2.2.2.1 a2.2.2.2 C.X C.T fun h' tk σ3 e3 G' N' => ⟨rfl, ?_⟩)
  have a3 := a2.step (tk := tk) G' N'
  refine sx_step (g4 a3.2.2.1 a3.2.2.2 C.X C.T fun h' tk σ4 e4 G' N' => ⟨rfl, ?_⟩)
  have a4 := a3.step (tk := tk) G' N'
  refine sx_step (g5 a4.2.2.1 a4.2.2.2 C.X C.T fun h' tk σ5 e5 G' N' => ⟨rfl, ?_⟩)
  have a5 := a4.step (tk := tk) G' N'
  refine sx_step (g6 h0 h1 C.Y a5.2.2.1 a5.2.2.2 C.X C.T fun h' tk σ6 e6 G' N' => ⟨rfl, ?_⟩)
  have a6 := a5.step (tk := tk) G' N'
  have e : σ6 = gturn ((tks[(i + 1).toNat]?).map (·.text)) σ := by rw [e6, e5, e4, e3, e]; rfl
  subst e
  exact turn_tail C hfs hgd hfg a6 (gturn_ok hn) next
end
end Mine

end
section
open PySem PySem.W PySem.W.X PyProof.Rows PySem.Calls
set_option maxHeartbeats 4000000
namespace Mine

theorem gLoop_eq : gLoop = [gl 0, gl 1, gl 2, gl 3, gl 4, gl 5, gl 6, gl 7, gl 8, gl 9, gl 10, gl 11] := rfl

def heads (tokens fdv : Value) (seen : Bool) (bd : Int) (t1 : Tok) (ids pty : Value) (prev : Str) (t2 : Tok) (pst pend pln : Value) : List (Str × Value) :=
  [("tokens", tokens), ("func_depth", fdv), ("seen_colon", .bool seen), ("brace_depth", .int bd t1), ("idents_to_avoid", ids), ("prev_type", pty), ("prev_text", .str prev t2), ("prev_start", pst), ("prev_end", pend), ("_line", pln)]

/-- the frame at the head of the loop -/
def HInv (g : Heap) (L ta ia I : Addr) (u1 u2 u3 : Tok) (x left : Int) (fd : Option Int) (seen : Bool) (bd : Int) (prev : Str) (pp : Value) (s₀ s : Shared) : Prop :=
  (∃ h tk, s = { s₀ with heap := h, toks := tk }) ∧ (∀ b o, g.get? b = some o → s₀.heap.get? b = some o) ∧
  (∃ (m : Str → Option Value) (fdv pty pend pln : Value) (t1 t2 : Tok), Fr g L s.heap m ∧ (∀ p ∈ heads (.ref ta) fdv seen bd t1 (.ref ia) pty prev t2 pp pend pln, m p.1 = some p.2) ∧ IsOptI fdv fd) ∧
  News g L s.heap ((ia, idsOf u1 u2 u3) :: (I, riOf x left) :: oth g L s₀.heap)

section
variable {w : World} {A : Around} {c : Code} {F : List Frame} {g : Heap} {L D ta ia I : Addr} {tks : List TK} {p : Program} {loose : List Str} {mg mb : Str → Option Value} {mean : ExcName → Option Value} {u1 u2 u3 : Tok} {i x left : Int} {fd : Option Int} {seen : Bool} {bd : Int} {prev : Str} {pp : Value} {s₀ s s' : Shared}
  {K : Flow → Sem Fin} {H : Value → Sem Fin} {gd : Bool → Bool} {lv : List Value → List Value}

theorem HInv.kept (h : HInv g L ta ia I u1 u2 u3 x left fd seen bd prev pp s₀ s) : Kept g L s₀ s := by
  obtain ⟨hs, B, ⟨m, _, _, _, _, _, _, F, _⟩, N⟩ := h
  exact kept_of B F N (fun p hp => .tail _ (.tail _ hp)) hs

theorem head_of {σ : TS} (h : TInv g L ta ia I u1 u2 u3 i x left σ s₀ s) : HInv g L ta ia I u1 u2 u3 x left σ.fd σ.seen σ.bd σ.prev σ.pp s₀ s := by
  obtain ⟨hs, B, ⟨m, fdv, idv, psv, pty, pend, pln, tty, en, ln, t1, t2, t3, ti, F, hm, ho, hi⟩, N⟩ := h
  exact ⟨hs, B, ⟨m, fdv, pty, pend, pln, t1, t2, F, fun q hq => hm q (List.mem_append_left [_, _, _, _, _, _, _, _] hq), ho⟩, N⟩

theorem news_ri {h h' : Heap} {o1 o2 : Obj} {x left : Int} {ri' : Obj} {rest : List (Addr × Obj)} (N : News g L h ((ia, o1) :: (I, riOf x left) :: rest)) (hr : ∀ q ∈ rest, q.2.cls ≠ .type "range_iterator") (hia : ia ≠ I)
    (hI : h'.get? I = some ri') (hk : ∀ b o, b ≠ I → h.get? b = some o → h'.get? b = some o) : News g L h' ((ia, o1) :: (I, ri') :: rest) := by
  let _ := o2
  intro q hq
  rcases List.mem_cons.mp hq with rfl | hq
  · have z := N _ (.head _)
    exact ⟨hk _ _ hia z.1, z.2⟩
  have zI := N _ (.tail _ (.head _))
  rcases List.mem_cons.mp hq with rfl | hq
  · exact ⟨hI, zI.2⟩
  · have z := N _ (.tail _ (.tail _ hq))
    refine ⟨hk _ _ (fun e => ?_) z.1, z.2⟩
    have z1 := z.1
    rw [e, zI.1] at z1
    exact hr q hq (by rw [← Option.some.inj z1])

theorem turn_all {os : List (Value × Str)} {t : TK} {rest : List TK} {ti : Tok} (C : GCst w g L D ta ia I tks p loose mg mb mean) (hh : (A.over c F).handled = none) (hfs : splitAtGen F = none) (hgd : gd false = false) (hfg : F.any Frame.guarded = false) (h0 : 0 ≤ i) (hd : tks.drop i.toNat = t :: rest)
    {m : Str → Option Value} {fdv pty pend pln : Value} {t1 t2 : Tok} (hs : ∃ h tk, s = { s₀ with heap := h, toks := tk }) (hB : ∀ b o, g.get? b = some o → s₀.heap.get? b = some o) (Fm : Fr g L s.heap m) (hm : ∀ p ∈ heads (.ref ta) fdv seen bd t1 (.ref ia) pty prev t2 pp pend pln ++ ([("index", .int i ti)] : List (Str × Value)), m p.1 = some p.2)
    (ho : IsOptI fdv fd) (N : News g L s.heap ((ia, idsOf u1 u2 u3) :: (I, riOf x left) :: oth g L s₀.heap))
    (next : ∀ s₀ s, HInv g L ta ia I u1 u2 u3 x left (gturn (rest.head?.map (·.text)) ⟨fd, seen, bd, prev, pp, t.text, t.sv, none⟩).fd (gturn (rest.head?.map (·.text)) ⟨fd, seen, bd, prev, pp, t.text, t.sv, none⟩).seen (gturn (rest.head?.map (·.text)) ⟨fd, seen, bd, prev, pp, t.text, t.sv, none⟩).bd t.text t.sv s₀ s →
      SegX (model (RowW.prog (OpenRow.toRowW (OpenLaw.row PySem.Challenge.rw_bd0046_01))) w) A c (K .next) F s (PY (model (RowW.prog (OpenRow.toRowW (OpenLaw.row PySem.Challenge.rw_bd0046_01))) w) A g L D os s₀)) :
    SegX (model (RowW.prog (OpenRow.toRowW (OpenLaw.row PySem.Challenge.rw_bd0046_01))) w) A c ((execs [gl 0, gl 1, gl 2, gl 3, gl 4, gl 5, gl 6, gl 7, gl 8, gl 9, gl 10, gl 11] (gEnv L)).wrap K H gd lv) F s
      (PY (model (RowW.prog (OpenRow.toRowW (OpenLaw.row PySem.Challenge.rw_bd0046_01))) w) A g L D (outs7 (gturn (rest.head?.map (·.text)) ⟨fd, seen, bd, prev, pp, t.text, t.sv, none⟩) ++ (outs8 (gturn (rest.head?.map (·.text)) ⟨fd, seen, bd, prev, pp, t.text, t.sv, none⟩) ++ (outs9 (gturn (rest.head?.map (·.text)) ⟨fd, seen, bd, prev, pp, t.text, t.sv, none⟩) ++ os))) s₀) := by
  have hlt : i.toNat < tks.length := by
    rcases Nat.lt_or_ge i.toNat tks.length with h | h
    · exact h
    · rw [List.drop_eq_nil_of_le h] at hd; cases hd
  have hi1 : i < tks.length := by omega
  have ht : tks[i.toNat]? = some t := by rw [← List.head?_drop, hd]; rfl
  have hn : tks[(i + 1).toNat]? = rest.head? := by
    rw [show (i + 1).toNat = i.toNat + 1 by omega, ← List.head?_drop, ← List.drop_drop, hd]; rfl
  refine sx_step (wpAny_mono (g01 hh h0 hi1 C.Y Fm (Q := fun f s' => f = .next ∧ SegX (model (RowW.prog (OpenRow.toRowW (OpenLaw.row PySem.Challenge.rw_bd0046_01))) w) A c ((execs [gl 2, gl 3, gl 4, gl 5, gl 6, gl 7, gl 8, gl 9, gl 10, gl 11] (gEnv L)).wrap K H gd lv) F s'
      (PY (model (RowW.prog (OpenRow.toRowW (OpenLaw.row PySem.Challenge.rw_bd0046_01))) w) A g L D (outs7 (gturn (rest.head?.map (·.text)) ⟨fd, seen, bd, prev, pp, t.text, t.sv, none⟩) ++ (outs8 (gturn (rest.head?.map (·.text)) ⟨fd, seen, bd, prev, pp, t.text, t.sv, none⟩) ++ (outs9 (gturn (rest.head?.map (·.text)) ⟨fd, seen, bd, prev, pp, t.text, t.sv, none⟩) ++ os))) s₀)) hm ho N C.X C.T
    fun h' tk σ' e G N' => ⟨rfl, ?_⟩) (fun f s1 h1 => ?_) fun _ _ z => z)
  · obtain ⟨t', ht', rfl⟩ := e
    rw [ht] at ht'
    cases ht'
    rw [← hn]
    have TI : TInv g L ta ia I u1 u2 u3 i x left ⟨fd, seen, bd, prev, pp, t.text, t.sv, none⟩ s₀ { s with heap := h', toks := tk } := by
      obtain ⟨_, _, rfl⟩ := hs
      exact ⟨⟨_, _, rfl⟩, hB, G, N'⟩
    refine turn_mid C hfs hgd hfg h0 hi1 TI rfl fun s₀ s hT => next s₀ s ?_
    have q := gturn_same ((tks[(i + 1).toNat]?).map (·.text)) ⟨fd, seen, bd, prev, pp, t.text, t.sv, none⟩
    have z := head_of hT
    dsimp only at z
    rw [q.2.2.1, q.2.2.2] at z
    rw [← hn]
    exact z
  · obtain ⟨rfl, h1⟩ := h1
    exact ⟨rfl, sx_step h1⟩

theorem loop_head {px : Pos} (C : GCst w g L D ta ia I tks p loose mg mb mean) (hh : (A.over (.forLoop (.Name "index" px) (.ref I) gLoop [] (gEnv L)) F).handled = none) (hfs : splitAtGen F = none) (hfg : F.any Frame.guarded = false)
    (hdone : ∀ s₀ s, Kept g L s₀ s → SegX (model (RowW.prog (OpenRow.toRowW (OpenLaw.row PySem.Challenge.rw_bd0046_01))) w) A (.block [] (gEnv L)) (.pure (.done .next)) F s (PY (model (RowW.prog (OpenRow.toRowW (OpenLaw.row PySem.Challenge.rw_bd0046_01))) w) A g L D [] s₀)) :
    ∀ (rest : List TK) (i : Int) (fd : Option Int) (seen : Bool) (bd : Int) (prev : Str) (pp : Value) (s₀ s : Shared), tks.drop i.toNat = rest → 0 ≤ i → i ≤ tks.length → HInv g L ta ia I u1 u2 u3 i (tks.length - i) fd seen bd prev pp s₀ s →
      SegX (model (RowW.prog (OpenRow.toRowW (OpenLaw.row PySem.Challenge.rw_bd0046_01))) w) A (.forLoop (.Name "index" px) (.ref I) gLoop [] (gEnv L)) (denote table (.forLoop (.Name "index" px) (.ref I) gLoop [] (gEnv L))) F s (PY (model (RowW.prog (OpenRow.toRowW (OpenLaw.row PySem.Challenge.rw_bd0046_01))) w) A g L D (grun fd seen bd prev pp rest) s₀) := by
  intro rest
  induction rest with
  | nil =>
    intro i fd seen bd prev pp s₀ s hd h0 h1 HI
    have hK := HI.kept
    obtain ⟨hs, B, ⟨m, fdv, pty, pend, pln, t1, t2, Fm, hm, ho⟩, N⟩ := HI
    have hlen : tks.length ≤ i.toNat := by
      rcases Nat.lt_or_ge i.toNat tks.length with h | h
      · have := congrArg List.length hd
        rw [List.length_drop] at this
        simp at this
        omega
      · exact h
    show SegX _ A _ ((forTurn _ _ _ _ _).onRaise _) F s _
    unfold forTurn
    rw [Sem.onRaise_eq_wrap, Sem.bind_eq_wrap', Sem.wrap_wrap]
    refine sx_wrap (wpAny_standAt ?_)
    rw [Sem.bind_eq_wrap', Sem.wrap_wrap]
    refine sx_wrap (wpAny_onRaise (wpAny_pyNext_range_end hh (N _ (.tail _ (.head _))).1 (by omega) fun h' he => ?_))
    show SegX _ A _ (.pure (.again (.block [] (gEnv L)))) F _ _
    refine s_again _ _ _ _ _ _ _ _ rfl ?_
    exact hdone s₀ _ (by
      obtain ⟨_, _, rfl⟩ := hs
      refine ⟨⟨h', _, rfl⟩, fun b o h1 h2 e => he b o (fun q => ?_) (hK.2.1 b o h1 h2 e), fun b o e1 e2 => he b o (fun q => by rw [q, (N _ (.tail _ (.head _))).2.2] at e1; cases e1) (hK.2.2 b o e1 e2)⟩
      have z := hK.2.1 b o h1 h2 e
      rw [q] at z
      have z' := (N _ (.tail _ (.head _))).1
      dsimp only at z z'
      rw [z] at z'
      cases z'
      exact h2 rfl)
  | cons t rest ih =>
    intro i fd seen bd prev pp s₀ s hd h0 h1 HI
    obtain ⟨hs, B, ⟨m, fdv, pty, pend, pln, t1, t2, Fm, hm, ho⟩, N⟩ := HI
    have hlt : i.toNat < tks.length := by
      rcases Nat.lt_or_ge i.toNat tks.length with h | h
      · exact h
      · rw [List.drop_eq_nil_of_le h] at hd; cases hd
    show SegX _ A _ ((forTurn _ _ _ _ _).onRaise _) F s _
    unfold forTurn
    rw [Sem.onRaise_eq_wrap, Sem.bind_eq_wrap', Sem.wrap_wrap]
    refine sx_wrap (wpAny_standAt ?_)
    rw [Sem.bind_eq_wrap', Sem.wrap_wrap]
    refine sx_wrap (wpAny_onRaise (wpAny_pyNext_range_item (N _ (.tail _ (.head _))).1 (by omega) fun h' hit hsb => ?_))
    dsimp only
    rw [Sem.bind_eq_wrap', Sem.wrap_wrap]
    refine sx_wrap (m := letOwnedTupleGo _ _ _) (wpAny_pure ?_)
    rw [Sem.bind_eq_wrap', Sem.wrap_wrap]
    have zI := N _ (.tail _ (.head _))
    have F1 : Fr g L h' m := fr_later Fm hsb.extBut (Ne.symm zI.2.1) zI.2.2
    have N1 : News g L h' ((ia, idsOf u1 u2 u3) :: (I, riOf (i + 1) (tks.length - i - 1)) :: oth g L s₀.heap) := news_ri (o2 := default) N (fun q hq => (of_oth hq).2.2.2) C.iaI hit hsb.extBut
    refine sx_wrap (wpAny_assign_Name (stN (s := { s with heap := h', toks := _ }) F1 N1 (fun h'' F2 N2 => ?_)))
    rw [Sem.bind_eq_wrap', Sem.wrap_wrap]
    show SegX _ A _ ((execs [gl 0, gl 1, gl 2, gl 3, gl 4, gl 5, gl 6, gl 7, gl 8, gl 9, gl 10, gl 11] (gEnv L)).wrap _ _ _ _) F _ _
    refine turn_all (t1 := t1) (t2 := t2) (pty := pty) (pend := pend) (pln := pln) (ti := s.toks) C hh hfs rfl hfg h0 hd (by obtain ⟨_, _, rfl⟩ := hs; exact ⟨_, _, rfl⟩) B F2 ?_ ho N2 ?_
    · intro q hq
      rcases List.mem_append.mp hq with hq | hq
      · have z := hm q hq
        rw [if_neg ?_]
        · exact z
        · revert hq
          unfold heads
          intro hq
          simp only [List.mem_cons, List.not_mem_nil, or_false] at hq
          rcases hq with rfl | rfl | rfl | rfl | rfl | rfl | rfl | rfl | rfl | rfl <;> (dsimp only; decide)
      · cases List.mem_singleton.mp hq
        exact if_pos rfl
    · intro s₀ s HI'
      show SegX _ A _ (.pure (.again (.forLoop (.Name "index" px) (.ref I) gLoop [] (gEnv L)))) F _ _
      refine s_again _ _ _ _ _ _ _ _ rfl ?_
      refine ih (i + 1) _ _ _ _ _ s₀ s ?_ (by omega) (by omega) ?_
      · rw [show (i + 1).toNat = i.toNat + 1 by omega, ← List.drop_drop, hd]; rfl
      · rw [show (tks.length : Int) - (i + 1) = tks.length - i - 1 by omega]; exact HI'
end
end Mine

end
section
open PySem PySem.W PySem.W.X PyProof.Rows PySem.Calls Builtin
set_option maxHeartbeats 8000000
namespace Mine
local macro_rules | `(tactic| ktr_unf) => `(tactic| (unfold heads; repeat (first | exact List.forall_mem_nil _ | refine' List.forall_mem_cons.mpr ⟨rfl, ?_⟩)))
local macro_rules | `(tactic| walk_at "assign Tuple") => `(tactic| (k_here; (rename Fr _ _ _ _ => kF); (rename News _ _ _ _ => kN); (rename ToksIn _ _ _ => kY); (refine tok_assign kF kN (by with_reducible assumption) kY (by with_reducible assumption) (by with_reducible assumption) rfl rfl ?_); intro h' kv' t1' ev' ln' F' N'; (try k_sweep)))
local macro_rules | `(tactic| walk_at "call builtin:len") => `(tactic| (k_here; (rename Fr _ _ _ _ => kF); (rename ToksIn _ _ _ => kY); (refine tok_len kF kY ?_); intro tk' tk''))
local macro_rules | `(tactic| walk_at "subscriptTail") => `(tactic| (k_here; (rename Fr _ _ _ _ => kF); (rename ToksIn _ _ _ => kY); (first
  | (refine tok_item kF kY (by omega) (by omega) ?_; intro tq' tq1' tq2'))))
local macro_rules | `(tactic| walk_at "unpackItems ref") => `(tactic| (k_here; (rename Fr _ _ _ _ => kF); (rename News _ _ _ _ => kN); (rename ToksIn _ _ _ => kY); (refine tok_unpackF kF kN (by with_reducible assumption) kY (by with_reducible assumption) (by with_reducible assumption) rfl ?_); intro h' kv' t1' ev' ln' F' N'; (try k_sweep)))
def gb (n : Nat) : Stmt := gBody.getD n default
def forIter : Stmt → Expr
  | .For _ e _ _ _ => e
  | _ => default
section
variable {w : World} {A : Around} {s : Shared} {h₀ : Heap} {L ta ia : Addr} {news : List (Addr × Obj)} {p : Program} {loose : List Str} {mg mb : Str → Option Value} {mean : ExcName → Option Value} {tks : List TK} {Q : Flow → Shared → Prop} {t0 : TK}

theorem g_start {m : Str → Option Value} (hh : A.handled = none) (ht : tks[0]? = some t0) (Y : ToksIn h₀ ta tks)
    (F : Fr h₀ L s.heap m) (hm : m "tokens" = some (.ref ta))
    (N : News h₀ L s.heap news) (X : (KF w.params).In h₀) (T : Top p loose mean mg mb h₀)
    (H : ∀ h' tk ia u1 u2 u3 m pty pend pln t1 t2, Fr h₀ L h' m → (∀ p ∈ heads (.ref ta) .none false 0 t1 (.ref ia) pty t0.text t2 t0.sv pend pln, m p.1 = some p.2) → News h₀ L h' ((ia, idsOf u1 u2 u3) :: news) → Q .next { s with heap := h', toks := tk }) :
    wpAny (model (RowW.prog (OpenRow.toRowW (OpenLaw.row PySem.Challenge.rw_bd0046_01))) w) A (exec (gb 0) (gEnv L)) (fun f s₁ => f = .next ∧ wpAny (model (RowW.prog (OpenRow.toRowW (OpenLaw.row PySem.Challenge.rw_bd0046_01))) w) A (exec (gb 1) (gEnv L)) (fun f s₁ => f = .next ∧ wpAny (model (RowW.prog (OpenRow.toRowW (OpenLaw.row PySem.Challenge.rw_bd0046_01))) w) A (exec (gb 2) (gEnv L)) 
     (fun f s₁ => f = .next ∧ wpAny (model (RowW.prog (OpenRow.toRowW (OpenLaw.row PySem.Challenge.rw_bd0046_01))) w) A (exec (gb 3) (gEnv L)) (fun f s₁ => f = .next ∧ wpAny (model (RowW.prog (OpenRow.toRowW (OpenLaw.row PySem.Challenge.rw_bd0046_01))) w) A (exec (gb 4) (gEnv L)) (fun f s₁ => f = .next ∧ wpAny (model (RowW.prog (OpenRow.toRowW (OpenLaw.row PySem.Challenge.rw_bd0046_01))) w) A (exec (gb 5) (gEnv L)) Q (fun _ _ => False) s₁) (fun _ _ => False) s₁) (fun _ _ => False) s₁) (fun _ _ => False) s₁) (fun _ _ => False) s₁) (fun _ _ => False) s := by
  have hlen : 0 < tks.length := by
    rcases Nat.eq_zero_or_pos tks.length with h | h
    · rw [List.length_eq_zero_iff.mp h] at ht; cases ht
    · exact h
  conv => 
    arg 3
    arg 1
    whnf
  revert X; k_fill; intro X
  unfold gEnv at *
  rw [map_or (l := [("tokens", .ref ta)]) (m := m) (fun q hq => by cases List.mem_singleton.mp hq; exact hm)] at F
  clear hm
  k_steps
  iterate 5 
    conv => 
      arg 3
      arg 1
      whnf
    k_steps
    all_goals (try exact trivial)
  rename tks[_]? = some _ => tq1
  have e := tq1.symm.trans ht
  cases e
  (rename Fr _ _ _ _ => F9); (rename News _ _ _ _ => N9)
  refine' H _ _ _ _ _ _ _ _ _ _ _ _ F9 ?ms N9
  case ms => ktr_unf

theorem g_iter {m : Str → Option Value} (hh : A.handled = none) (Y : ToksIn h₀ ta tks) (hpos : 0 < tks.length)
    (F : Fr h₀ L s.heap m) (hm : m "tokens" = some (.ref ta))
    (N : News h₀ L s.heap news) (X : (KF w.params).In h₀) (T : Top p loose mean mg mb h₀) {Q : Value → Shared → Prop}
    (H : ∀ h' tk I, Fr h₀ L h' m → News h₀ L h' ((I, riOf 1 (tks.length - 1)) :: news) → Q (.ref I) { s with heap := h', toks := tk }) :
    wpAny (model (RowW.prog (OpenRow.toRowW (OpenLaw.row PySem.Challenge.rw_bd0046_01))) w) A (eval (forIter (gb 6)) (gEnv L)) (fun x s₁ => wpAny (model (RowW.prog (OpenRow.toRowW (OpenLaw.row PySem.Challenge.rw_bd0046_01))) w) A (pyIter x) Q (fun _ _ => False) s₁) (fun _ _ => False) s := by
  conv => 
    arg 3
    arg 1
    whnf
  revert X; k_fill; intro X
  unfold gEnv at *
  rw [map_or (l := [("tokens", .ref ta)]) (m := m) (fun q hq => by cases List.mem_singleton.mp hq; exact hm)] at F
  k_steps
  all_goals (
    (rename Fr _ _ _ _ => F9); (rename News _ _ _ _ => N9); (rename IsRange _ _ _ _ _ _ _ _ => R9)
    (rename ToksIn _ _ _ => Y9)
    have hf := Y9.few
    rw [← map_or (l := [("tokens", .ref ta)]) (m := m) (fun q hq => by cases List.mem_singleton.mp hq; exact hm)] at F9
    refine wpAny_pyIter_range R9 (small_one (by omega) (by omega) (by omega) (by omega)) ?_
    have e : Builtin.Range.rangeSize 1 (tks.length : Int) 1 = tks.length - 1 := by
      unfold Builtin.Range.rangeSize
      rw [if_pos (by decide)]
      split <;> omega
    rw [e]
    exact H _ _ _ (F9.push _) (N9.push F9 _))
end

section
variable {prog : Program} {w : World} {A : Around} {c : Code} {fs : List Frame} {s : Shared} {P : End → Shared → Prop} {env : Env}
theorem sx_For {target iter : Expr} {body orelse : List Stmt} {pos : Pos} {K : Flow → Sem Fin} {H : Value → Sem Fin} {gd : Bool → Bool} {lv : List Value → List Value}
    (h : wpAny (model prog w) (A.over c fs) (eval iter env) (fun x s₁ => wpAny (model prog w) (A.over c fs) (pyIter x) (fun it s₂ => ∀ p, SegX (model prog w) A (.forLoop target it body orelse env) (denote table (.forLoop target it body orelse env))
      (.ret (fun r => ((match r with | .ok f => (.pure f : Sem Flow) | .error e => .raise e).onRaise fun (x : Value) => do
        if (← field x 1) == Value.none then unsupported "frame.own-activation:exception-without-traceback"
        setFlight x env.frame).wrap K H gd lv) none (gd false) (lv []) c p [] :: fs) s₂ P) (fun _ _ => False) s₁) (fun _ _ => False) s)
    (hs : ∀ x, foldedSetIterable iter env x = pure x := by intro _; rfl) :
    SegX (model prog w) A c ((exec (.For target iter body orelse pos) env).wrap K H gd lv) fs s P := by
  rw [exec_For]
  rw [Sem.bind_eq_wrap', Sem.wrap_wrap]
  refine sx_wrap (wpAny_standAt ?_)
  rw [Sem.bind_eq_wrap', Sem.wrap_wrap]
  refine sx_wrap (wpAny_mono h (fun x s₁ h₁ => ?_) fun _ _ z => z.elim)
  rw [Sem.bind_eq_wrap', Sem.wrap_wrap]
  refine sx_wrap (wpAny_of_eq (hs x) ?_)
  rw [Sem.bind_eq_wrap', Sem.wrap_wrap]
  refine sx_wrap (wpAny_standAt ?_)
  rw [Sem.bind_eq_wrap', Sem.wrap_wrap]
  refine sx_wrap (wpAny_holding (wpAny_mono h₁ (fun it s₂ h₂ => ?_) fun _ _ z => z.elim))
  exact s_call prog w A c fs P s₂ _ _ _ _ _ h₂
theorem sx_func {body : List Stmt}
    (h : SegX (model prog w) A (.func body env) ((execs body env).wrap (fun f => .pure (.done (.ret (match f with | .ret v => v | _ => .none))))
      (fun e => (leaving env e).wrap (fun _ => .raise e) .raise id id) id id) fs s P) :
    SegX (model prog w) A (.func body env) (denote table (.func body env)) fs s P := by
  show SegX _ A _ (.point [] fun _ => ((execs body env).onRaise (leaving env)) >>= _) fs s P
  refine sx_point ?_
  rw [Sem.onRaise_eq_wrap, Sem.bind_eq_wrap', Sem.wrap_wrap]
  rw [Sem.wrap_congr (execs body env) _ _ (K' := fun f => .pure (.done (.ret (match f with | .ret v => v | _ => .none))))
    (H' := fun e => (leaving env e).wrap (fun _ => .raise e) .raise id id) (fun f => by cases f <;> rfl)
    (fun e => by rw [Sem.bind_eq_wrap, Sem.wrap_wrap]; rfl)]
  exact h
end
theorem gBody_eq : gBody = [gb 0, gb 1, gb 2, gb 3, gb 4, gb 5, gb 6] := rfl
theorem gb6_eq : ∃ px q, gb 6 = .For (.Name "index" px) (forIter (gb 6)) gLoop [] q := ⟨_, _, rfl⟩

section
variable {w : World} {A : Around} {g : Heap} {L D ta : Addr} {tks : List TK} {p : Program} {loose : List Str} {mg mb : Str → Option Value} {mean : ExcName → Option Value} {s : Shared} {t0 : TK} {rest : List TK} {oD : Obj}
theorem gen_start {m : Str → Option Value} (hA : A.handled = none) (hdt : tks = t0 :: rest) (X : (KF w.params).In g) (T : Top p loose mean mg mb g) (Y : ToksIn g ta tks) (LD : L ≠ D) (gD : g.get? D = none) (hD : s.heap.get? D = some oD) (hDc : oD.cls = .type "list")
    (F : Fr g L s.heap m) (hm : m "tokens" = some (.ref ta)) :
    SegX (model (RowW.prog (OpenRow.toRowW (OpenLaw.row PySem.Challenge.rw_bd0046_01))) w) A (.func gBody (gEnv L)) (denote table (.func gBody (gEnv L))) [] s (PY (model (RowW.prog (OpenRow.toRowW (OpenLaw.row PySem.Challenge.rw_bd0046_01))) w) A g L D (grun none false 0 t0.text t0.sv rest) s) := by
  have ht : tks[0]? = some t0 := by rw [hdt]; rfl
  have hlen : 0 < tks.length := by rw [hdt]; simp
  have N0 : News g L s.heap (oth g L s.heap) := news_oth g s.heap L
  have mD : (D, oD) ∈ oth g L s.heap := mem_oth hD (Ne.symm LD) (by rw [hDc]; decide) gD
  have hA' : (A.over (.func gBody (gEnv L)) []).handled = none := by show (marksOver _ _).1 = none; rw [hA]; rfl
  refine sx_func ?_
  show SegX _ A _ ((execs [gb 0, gb 1, gb 2, gb 3, gb 4, gb 5, gb 6] (gEnv L)).wrap _ _ _ _) _ _ _
  refine sx_step (wpAny_mono (g_start (Q := fun f s' => f = .next ∧ SegX (model (RowW.prog (OpenRow.toRowW (OpenLaw.row PySem.Challenge.rw_bd0046_01))) w) A (.func gBody (gEnv L)) ((execs [gb 6] (gEnv L)).wrap (fun f => .pure (.done (.ret (match f with | .ret v => v | _ => .none))))
      (fun e => (leaving (gEnv L) e).wrap (fun _ => .raise e) .raise id id) id id) [] s' (PY (model (RowW.prog (OpenRow.toRowW (OpenLaw.row PySem.Challenge.rw_bd0046_01))) w) A g L D (grun none false 0 t0.text t0.sv rest) s)) hA' ht Y F hm N0 X T fun h' tk ia u1 u2 u3 m pty pend pln t1 t2 F1 hm1 N1 => ⟨rfl, ?_⟩) (fun f s1 h1 => ?_) fun _ _ z => z)
  · refine sx_cons ?_
    obtain ⟨px, q, e6⟩ := gb6_eq
    rw [e6]
    refine sx_For (g_iter hA' Y hlen F1 (hm1 ("tokens", .ref ta) (.head _)) N1 X T ?_)
    intro h'' tk I F2 N2 pc
    have iI := (N2 _ (.head _)).1
    have iA := (N2 _ (.tail _ (.head _))).1
    have iD := (N2 _ (.tail _ (.tail _ mD))).1
    have C : GCst w g L D ta ia I tks p loose mg mb mean := by
      refine ⟨X, T, Y, LD, gD, fun e => ?_, fun e => ?_, fun e => ?_⟩
      · dsimp only at iA iD; rw [e, iD] at iA; have q := congrArg Obj.cls (Option.some.inj iA); rw [hDc] at q; exact absurd (Value.type.inj q) (by decide)
      · dsimp only at iI iD; rw [e, iD] at iI; have q := congrArg Obj.cls (Option.some.inj iI); rw [hDc] at q; exact absurd (Value.type.inj q) (by decide)
      · dsimp only at iI iA; rw [e, iI] at iA; have q := congrArg Obj.cls (Option.some.inj iA); exact absurd (Value.type.inj q) (by decide)
    refine loop_head (u1 := u1) (u2 := u2) (u3 := u3) C (by show (marksOver _ _).1 = none; rw [hA]; rfl) rfl rfl ?_ rest 1 none false 0 t0.text t0.sv s _ (by rw [hdt]; rfl) (by decide) (by omega) ?_
    · intro s₀ s hK
      refine s_pop _ _ _ _ _ _ _ (.ok .next) _ rfl _ _ _ _ _ _ _ ?_
      exact s_end _ _ _ _ _ _ (.ok (.ret .none)) _ rfl ⟨rfl, hK⟩
    · refine ⟨⟨_, _, rfl⟩, F.keep, ⟨m, .none, pty, pend, pln, t1, t2, F2, hm1, .none⟩, fun q hq => ?_⟩
      rcases List.mem_cons.mp hq with rfl | hq
      · exact N2 _ (.tail _ (.head _))
      rcases List.mem_cons.mp hq with rfl | hq
      · exact N2 _ (.head _)
      · exact N2 _ (.tail _ (.tail _ hq))
  · obtain ⟨rfl, h1⟩ := h1
    refine ⟨rfl, sx_step (wpAny_mono h1 (fun f s1 h1 => ?_) fun _ _ z => z)⟩
    obtain ⟨rfl, h1⟩ := h1
    refine ⟨rfl, sx_step (wpAny_mono h1 (fun f s1 h1 => ?_) fun _ _ z => z)⟩
    obtain ⟨rfl, h1⟩ := h1
    refine ⟨rfl, sx_step (wpAny_mono h1 (fun f s1 h1 => ?_) fun _ _ z => z)⟩
    obtain ⟨rfl, h1⟩ := h1
    refine ⟨rfl, sx_step (wpAny_mono h1 (fun f s1 h1 => ?_) fun _ _ z => z)⟩
    obtain ⟨rfl, h1⟩ := h1
    exact ⟨rfl, sx_step h1⟩
end
end Mine

end
section
open PySem PySem.W PySem.W.X PyProof.Rows PySem.Calls
set_option maxHeartbeats 4000000
namespace Mine

/-- a generator that can be woken, and then hands out these -/
def Wk (M : Model) (A : Around) (g : Heap) (L D : Addr) (gs : GenState) (os : List (Value × Str)) (s : Shared) : Prop :=
  ∃ c₀ t₀ fs₀, ((gs = .fresh c₀ ∧ t₀ = denote table c₀ ∧ fs₀ = []) ∨ (∃ k₀ l₀ p₀ cl, gs = .suspended k₀ l₀ c₀ p₀ fs₀ cl ∧ t₀ = k₀ (.send .none))) ∧
    ∀ s'', Later D s s'' → (∃ o, s''.heap.get? D = some o ∧ o.cls = .type "list") → SegX M A c₀ t₀ fs₀ s'' (PY M A g L D os s'')

section
variable {prog : Program} {w : World} {A : Around} {s : Shared} {g : Heap} {L D a : Addr} {gi : Nat} {gs : GenState} {os : List (Value × Str)} {E : Value → Shared → Prop}

theorem pyNext_X {Q : Option Value → Shared → Prop} (hh : A.handled = none) (hl : s.heap.NoLimit) (hroom : A.depth < recursionLimit) (hg : s.heap.IsGen a gi) (hgs : s.gens[gi]? = some gs)
    (hw : Wk (model prog w) A.in1 g L D gs os s) (hD : ∃ o, s.heap.get? D = some o ∧ o.cls = .type "list")
    (hnil : os = [] → ∀ s₁ h', Kept g L (s.setGen gi .running) s₁ → (∀ b o, s₁.heap.get? b = some o → h'.get? b = some o) → Q none { s₁.setGen gi .finished with heap := h' })
    (hcons : ∀ o os', os = o :: os' → ∀ v s₁ gs', Kept g L (s.setGen gi .running) s₁ → OkTup L s₁.heap v o → gs'.bare = true → Wk (model prog w) A.in1 g L D gs' os' s₁ → Q (some v) (s₁.setGen gi gs')) :
    wpAny (model prog w) A (pyNext (.ref a)) Q E s := by
  obtain ⟨c₀, t₀, fs₀, hst, hseg⟩ := hw
  unfold pyNext
  refine wpAny_bind (wpAny_attempt (wpAny_callSpecial?_slot (name := Str.ofString "__next__") hg.typeIs slot_gen_next
    (wpAny_call_entry slot_gen_next hg.typeIs entry_gen_next ?_ (args_gen_next _))))
  show wpAny _ _ (Builtin.Generator.genWake (.ref a) (.send .none)) _ _ s
  unfold Builtin.Generator.genWake
  refine wpAny_bind (wpAny_holding (wpAny_genNumber hg (wpAny_bind (wpAny_genState hgs ?_))))
  have S : SegX (model prog w) A.in1 c₀ t₀ fs₀ (s.setGen gi .running) (PY (model prog w) A.in1 g L D os (s.setGen gi .running)) := hseg _ (fun b o _ e => e) hD
  have S' : SegX (model prog w) A.in1 c₀ t₀ fs₀ (s.setGen gi .running) (fun e s' => e.quiet = true ∧ PY (model prog w) A.in1 g L D os (s.setGen gi .running) e s') := fun Γ p hc hΓ => by
    obtain ⟨e, s', hr, hq, hp⟩ := S Γ p hc hΓ
    exact ⟨e, s', hr, hq, hq, hp⟩
  have key : ∀ {α : Type} {k : GenResult → Sem α} {l : List Value} {Q' : α → Shared → Prop} {E' : Value → Shared → Prop},
      (∀ e s₁, e.quiet = true → PY (model prog w) A.in1 g L D os (s.setGen gi .running) e s₁ → wpAny (model prog w) A.in1 (k e.result) Q' E' (s₁.setGen gi e.genState)) →
      wpAny (model prog w) A.in1 (.resume gi (.send .none) l k) Q' E' s := fun {α k l Q' E'} h Γ p hΓ =>
    wake_any α prog w hgs (by
      rcases hst with ⟨h1, h2, h3⟩ | h
      · exact .inl ⟨h1, rfl, h2, h3⟩
      · exact .inr h) (fun Γ => Γ.In A.in1) (fun _ h => h) (S'.mono fun e s₁ he Γ p hC => h e s₁ he.1 he.2 Γ p hC) Γ p hΓ
  cases gs with
  | running => rcases hst with ⟨h, _⟩ | ⟨_, _, _, _, h, _⟩ <;> cases h
  | finished => rcases hst with ⟨h, _⟩ | ⟨_, _, _, _, h, _⟩ <;> cases h
  | _ =>
    refine wpAny_bind (wpAny_roomToWake hl hroom ?_)
    show wpAny _ _ (.resume gi (.send .none) [] _) _ _ s
    refine key fun e s₁ hq he => ?_
    cases os with
    | nil =>
      obtain ⟨rfl, hk⟩ := he
      show wpAny _ _ (newExc (.type "StopIteration") [] >>= _) _ _ _
      refine wpAny_bind ?_
      simp only [newExc, newTuple]
      refine wpAny_bind (wpAny_newObj_type ?_ (by size_fits))
      refine wpAny_bind (m := firstArgMember _ _) (wpAny_of_eq (a := Value.none) (by first | rfl | (simp only [firstArgMember]; rfl)) ?_)
      refine wpAny_newObj_type ?_ (by size_fits)
      simp only [raiseNew]
      refine wpAny_bind (wpAny_bind (wpAny_handled ?_))
      rw [show A.in1.handled = none from hh]
      refine wpAny_throw ?_
      refine wpAny_bind (wpAny_isInstance (T := "StopIteration") (b := true) ⟨_, Heap.get?_push_size _ rfl, rfl⟩ isSubtype_stop ?_)
      exact wpAny_pure (hnil rfl s₁ _ hk fun b o hb => Heap.get?_push_of_some _ (Heap.get?_push_of_some _ hb))
    | cons o os =>
      cases e with
      | ret r => exact he.elim
      | susp v gg l' k' c' p' fs' =>
        obtain ⟨h1, h2, h3⟩ := he
        exact wpAny_pure ⟨v, rfl, wpAny_pure (hcons o os rfl v s₁ _ h2 h1 (End.bare_of_quiet hq) ⟨c', _, fs', .inr ⟨k', l', p', _, rfl, rfl⟩, fun s'' hL _ => h3 s'' hL⟩)⟩
end
end Mine

end
section
open PySem PySem.W PySem.W.X PyProof.Rows PySem.Calls
set_option maxHeartbeats 4000000
namespace Mine

def AllTup (L : Addr) (h : Heap) : List Value → List (Value × Str) → Prop
  | [], [] => True
  | v :: vs, o :: os => OkTup L h v o ∧ AllTup L h vs os
  | _, _ => False

/-- what a list that is filled from the generator leaves as it was -/
def LK (g : Heap) (L D : Addr) (s s' : Shared) : Prop :=
  (∀ b o, b ≠ D → b ≠ L → o.cls ≠ .type "range_iterator" → s.heap.get? b = some o → s'.heap.get? b = some o) ∧ ∀ b o, g.get? b = some o → s'.heap.get? b = some o

theorem bare_set {gens : Array GenState} {i : Nat} {x : GenState} (h : AllBare gens) (hx : x.bare = true) : AllBare (gens.setIfInBounds i x) := fun y hy => by
  obtain ⟨j, hj, rfl⟩ := Array.mem_iff_getElem.mp hy
  have hj' : j < gens.size := by rw [Array.size_setIfInBounds] at hj; exact hj
  rw [Array.getElem_setIfInBounds hj']
  split
  · exact hx
  · exact h _ (Array.getElem_mem hj')

theorem OkTup.keep {g : Heap} {L D : Addr} {s s' : Shared} {v : Value} {o : Value × Str} {acc : Array Value} {c : Nat} (h : OkTup L s.heap v o) (hS : s.heap.get? D = some { cls := .type "list", data := .seq acc c }) (k : LK g L D s s') : OkTup L s'.heap v o := by
  obtain ⟨T, t', rfl, hL, e⟩ := h
  refine ⟨T, t', rfl, hL, k.1 T _ (fun q => ?_) hL (by dsimp only; decide) e⟩
  rw [q, hS] at e
  have z := congrArg Obj.cls (Option.some.inj e)
  exact absurd (Value.type.inj z) (by decide)

theorem Wk.later {M : Model} {A : Around} {g : Heap} {L D : Addr} {gs : GenState} {os : List (Value × Str)} {s s' : Shared} (h : Wk M A g L D gs os s) (k : Later D s s') : Wk M A g L D gs os s' := by
  obtain ⟨c, t, fs, h1, h2⟩ := h
  exact ⟨c, t, fs, h1, fun s'' hL hD => h2 s'' (fun b o hb e => hL b o hb (k b o hb e)) hD⟩

section
variable {prog : Program} {w : World} {A : Around} {g : Heap} {L D a : Addr} {gi : Nat} {R : Result → Shared → Prop} {res : Value}

theorem ext_loop (hh : A.handled = none) (hroom : A.depth < recursionLimit) (hlim : g.NoLimit) (aL : a ≠ L) (aD : a ≠ D) (DL : D ≠ L) (gD : g.get? D = none) :
    ∀ (os : List (Value × Str)) (s : Shared) (acc : Array Value) (c : Nat) (gs : GenState), (∀ b o, g.get? b = some o → s.heap.get? b = some o) → s.heap.IsGen a gi → s.gens[gi]? = some gs → AllBare s.gens → Wk (model prog w) A.in1.in1 g L D gs os s →
    s.heap.get? D = some { cls := .type "list", data := .seq acc c } → acc.size + os.length < sizeLine →
    (∀ s' vs c', LK g L D s s' → AllBare s'.gens → s'.os = s.os → s'.heap.get? D = some { cls := .type "list", data := .seq (acc ++ vs.toArray) c' } → AllTup L s'.heap vs os → R (.ok (.ret res)) s') →
    codeAny (model prog w) A (.builtin "list.extend.loop" ⟨[.ref D, .ref a, res], []⟩) R s := by
  intro os
  induction os with
  | nil =>
    intro s acc c gs hB hg hgs hAB hw hS hsz hR
    refine codeAny_builtin F.entry_extend_loop ?_
    rw [Around.under_plainId F.plain_extend_loop _]
    show wpAny _ A.in1 (pyNext (.ref a) >>= _) _ _ s
    refine wpAny_bind (pyNext_X (A := A.in1) hh (hlim.keeps hB) hroom hg hgs hw ⟨_, hS, rfl⟩ (fun _ s₁ h' hK hk => ?_) (fun o os' e => by cases e))
    refine wpAny_pure (hR _ [] c ⟨fun b o h1 h2 h3 e => hk b o (hK.2.1 b o h2 h3 e), fun b o e => hk b o (hK.2.2 b o e (hB b o e))⟩ ?_ ?_ ?_ trivial)
    · obtain ⟨⟨_, _, rfl⟩, _⟩ := hK
      exact bare_set (bare_set hAB rfl) rfl
    · obtain ⟨⟨_, _, rfl⟩, _⟩ := hK
      rfl
    · have z := hk D _ (hK.2.1 D _ DL (by dsimp only; decide) hS)
      simpa using z
  | cons o os ih =>
    intro s acc c gs hB hg hgs hAB hw hS hsz hR
    refine codeAny_builtin F.entry_extend_loop ?_
    rw [Around.under_plainId F.plain_extend_loop _]
    show wpAny _ A.in1 (pyNext (.ref a) >>= _) _ _ s
    refine wpAny_bind (pyNext_X (A := A.in1) hh (hlim.keeps hB) hroom hg hgs hw ⟨_, hS, rfl⟩ (fun e => by cases e) (fun o₁ os₁ e v s₁ gs' hK hT hb hw' => ?_))
    cases e
    have hS' : (s₁.setGen gi gs').heap.get? D = some { cls := .type "list", data := .seq acc c } := hK.2.1 D _ DL (by dsimp only; decide) hS
    show wpAny _ A.in1 (updateSeq D (·.push v) >>= _) _ _ _
    have hsz' : acc.size + os.length + 1 < sizeLine := by rw [List.length_cons] at hsz; omega
    refine wpAny_bind ?_
    have hot : ∀ b o, b ≠ D → s₁.heap.get? b = some o → ((s₁.setGen gi gs').heap.update D (Obj.mapSeq (·.push v))).get? b = some o := fun b o hb e => (Heap.get?_update_other _ _ (Ne.symm hb)).trans e
    have hg₁ : s₁.heap.IsGen a gi := by
      obtain ⟨og, nm, qn, h1, h2, h3, h4⟩ := hg
      exact ⟨og, nm, qn, hK.2.1 a og aL (by rw [h2]; decide) h1, h2, h3, h4⟩
    have hgi : gi < s.gens.size := (Array.getElem?_eq_some_iff.mp hgs).1
    refine wpAny_updateSeq hS' rfl (wpAny_pure ⟨plainId_quiet F.plain_extend_loop _, ih _ (acc.push v) _ gs' ?_ ?_ ?_ ?_ (hw'.later fun b o hb e => hot b o hb e) (Heap.get?_update_self _ hS' rfl) ?_ fun s'' vs c'' k hAB'' hos hS'' hT'' => ?_⟩)
      (by omega) (by show (acc.push v).size ≤ sizeLine + 1; rw [Array.size_push]; omega)
    · exact fun b o e => hot b o (fun q => by rw [q, gD] at e; cases e) (hK.2.2 b o e (hB b o e))
    · obtain ⟨og, nm, qn, h1, h2⟩ := hg₁
      exact ⟨og, nm, qn, hot a og aD h1, h2⟩
    · obtain ⟨⟨_, _, rfl⟩, _⟩ := hK
      show ((s.gens.setIfInBounds gi _).setIfInBounds gi gs')[gi]? = some gs'
      rw [Array.getElem?_setIfInBounds_self_of_lt (by rw [Array.size_setIfInBounds]; exact hgi)]
    · obtain ⟨⟨_, _, rfl⟩, _⟩ := hK
      exact bare_set (bare_set hAB rfl) hb
    · rw [Array.size_push]; omega
    · have k' : LK g L D s₁ s'' := ⟨fun b o h1 h2 h3 e => k.1 b o h1 h2 h3 (hot b o h1 e), k.2⟩
      refine hR s'' (v :: vs) c'' ⟨fun b o h1 h2 h3 e => k'.1 b o h1 h2 h3 (hK.2.1 b o h2 h3 e), k.2⟩ hAB'' ?_ ?_ ⟨hT.keep hS' k', hT''⟩
      · obtain ⟨⟨_, _, rfl⟩, _⟩ := hK
        exact hos
      · rw [hS'']; simp [← Array.append_singleton]

theorem extend_X {s : Shared} {os : List (Value × Str)} {gs : GenState} {c₀ : Nat} (hh : A.handled = none) (hroom : A.depth < recursionLimit) (hlim : g.NoLimit) (aL : a ≠ L) (aD : a ≠ D) (DL : D ≠ L) (gD : g.get? D = none)
    (hB : ∀ b o, g.get? b = some o → s.heap.get? b = some o) (hg : s.heap.IsGen a gi) (hgs : s.gens[gi]? = some gs) (hAB : AllBare s.gens) (hw : Wk (model prog w) A.in1.in1 g L D gs os s)
    (hS : s.heap.get? D = some { cls := .type "list", data := .seq #[] c₀ }) (hsz : os.length < sizeLine)
    (hR : ∀ s' vs c', LK g L D s s' → AllBare s'.gens → s'.os = s.os → s'.heap.get? D = some { cls := .type "list", data := .seq vs.toArray c' } → AllTup L s'.heap vs os → R (.ok (.ret res)) s') :
    wpAny (model prog w) A.in1 (Builtin.List.listExtendWith (.ref D) (.ref a) res)
      (fun fin s' => match fin with | .done f => R (.ok f) s' | .again c' => c'.quiet = true ∧ codeAny (model prog w) A c' R s') (fun e s' => R (.error e) s') s := by
  unfold Builtin.List.listExtendWith
  refine wpAny_bind (wpAny_typeOf hg.typeIs ?_)
  have h1 : Builtin.List.listSameRef (.ref D) (.ref a) = false := by simp [Builtin.List.listSameRef, Ne.symm aD]
  have h2 : (Value.type "generator" == Value.type "list") = false := by decide
  have h3 : (Value.type "generator" == Value.type "tuple") = false := by decide
  simp only [h1, h2, h3, Bool.or_false, Bool.false_eq_true, if_false]
  refine wpAny_bind (wpAny_pyIter_gen hg ?_)
  refine wpAny_bind (wpAny_holding ?_)
  unfold Builtin.List.listLengthHint
  refine wpAny_bind (wpAny_specialOf hg.typeIs F.gen_no_len ?_)
  show wpAny _ A.in1 (specialOf (Value.ref a) (Str.ofString "__length_hint__") >>= _) _ _ _
  refine wpAny_bind (wpAny_specialOf hg.typeIs F.gen_no_hint ?_)
  refine wpAny_pure ?_
  show wpAny _ A.in1 (rule "list.extend.makes-room" >>= fun _ => Builtin.List.listTouch (.ref D) >>= fun _ =>
    again (.builtin "list.extend.loop" ⟨[.ref D, .ref a, res], []⟩)) _ _ _
  refine wpAny_bind (wpAny_rule ?_)
  refine wpAny_bind ?_
  show wpAny _ A.in1 (updateSeq D (·.push .none) >>= fun _ => updateSeq D (·.pop)) _ _ _
  refine wpAny_bind (wpAny_updateSeq hS rfl ?_)
  have hS₂ := Heap.get?_update_self (Obj.mapSeq (·.push Value.none)) hS rfl
  refine wpAny_updateSeq (hz := by seq_fits) hS₂ rfl ?_
  have hS₃ := Heap.get?_update_self (Obj.mapSeq (·.pop)) hS₂ rfl
  have oth : ∀ b o, b ≠ D → s.heap.get? b = some o → ((s.heap.update D (Obj.mapSeq (·.push Value.none))).update D (Obj.mapSeq (·.pop))).get? b = some o :=
    fun b o hb e => (Heap.get?_update_other _ _ (Ne.symm hb)).trans ((Heap.get?_update_other _ _ (Ne.symm hb)).trans e)
  refine wpAny_pure ⟨plainId_quiet F.plain_extend_loop _, ext_loop hh hroom hlim aL aD DL gD os _ #[] _ gs (fun b o e => oth b o (fun q => by rw [q, gD] at e; cases e) (hB b o e)) ?_ hgs hAB (hw.later oth) hS₃ (by simpa using hsz) fun s' vs c' k hb ho hS' hT => ?_⟩
  · obtain ⟨og, nm, qn, h1, h2⟩ := hg
    exact ⟨og, nm, qn, oth a og aD h1, h2⟩
  · exact hR s' vs c' ⟨fun b o h1 h2 h3 e => k.1 b o h1 h2 h3 (oth b o h1 e), k.2⟩ hb ho (by simpa using hS') hT

theorem list_gen_X {s : Shared} {os : List (Value × Str)} {gs : GenState} {Q : Value → Shared → Prop} {E : Value → Shared → Prop} (hh : A.handled = none) (hroom : A.depth < recursionLimit) (hlim : g.NoLimit) (aL : a ≠ L) (hL : L < s.heap.objs.size)
    (hB : ∀ b o, g.get? b = some o → s.heap.get? b = some o) (hg : s.heap.IsGen a gi) (hgs : s.gens[gi]? = some gs) (hAB : AllBare s.gens) (hw : Wk (model prog w) A.in1.in1.in1 g L s.heap.objs.size gs os s) (hsz : os.length < sizeLine)
    (hQ : ∀ s' vs c', LK g L s.heap.objs.size s s' → AllBare s'.gens → s'.os = s.os → s'.heap.get? s.heap.objs.size = some { cls := .type "list", data := .seq vs.toArray c' } → AllTup L s'.heap vs os → Q (.ref s.heap.objs.size) s') :
    wpAny (model prog w) A (call (.type "list") [.ref a]) Q E s := by
  have gD : g.get? s.heap.objs.size = none := by
    cases e : g.get? s.heap.objs.size with
    | none => rfl
    | some o => exact absurd (Heap.lt_size (hB _ _ e)) (Nat.lt_irrefl _)
  have aD : a ≠ s.heap.objs.size := by
    obtain ⟨og, nm, qn, h1, h2⟩ := hg
    exact Nat.ne_of_lt (Heap.lt_size h1)
  refine callType_codes (Q₁ := fun obj s₁ => obj = .ref s.heap.objs.size ∧ s₁ = { s with heap := s.heap.push { cls := .type "list", data := .seq #[] } }) F.called_list (F.typeCall_list_1 _) F.entry_list_init
    (code_list_new _ ⟨rfl, rfl⟩) fun obj s₁ h₁ => ?_
  obtain ⟨rfl, rfl⟩ := h₁
  have hS : (s.heap.push { cls := .type "list", data := .seq #[] }).get? s.heap.objs.size = some { cls := .type "list", data := .seq #[] } := Heap.get?_push_size _ rfl
  refine ⟨⟨_, hS, rfl⟩, F.args_list_init_2 _ _, ?_⟩
  show wpAny _ A.in1.in1 (do let old ← Builtin.List.listItems (.ref s.heap.objs.size); Builtin.List.listUpdate (.ref s.heap.objs.size) (fun _ => #[]); letGo old.toList.reverse; Builtin.List.listExtendWith (.ref s.heap.objs.size) (.ref a) .none) _ _ _
  refine wpAny_bind ?_
  unfold Builtin.List.listItems
  refine wpAny_bind (wpAny_seqItems hS rfl (wpAny_pure ?_))
  show wpAny _ A.in1.in1 (updateSeq s.heap.objs.size (fun _ => #[]) >>= fun _ => letGo (#[] : Array Value).toList.reverse >>= fun _ => Builtin.List.listExtendWith (.ref s.heap.objs.size) (.ref a) .none) _ _ _
  refine wpAny_bind (wpAny_updateSeq hS rfl ?_)
  have hS₂ := Heap.get?_update_self (Obj.mapSeq (fun _ => (#[] : Array Value))) hS rfl
  have oth : ∀ b o, s.heap.get? b = some o → ((s.heap.push { cls := .type "list", data := .seq #[] }).update s.heap.objs.size (Obj.mapSeq (fun _ => (#[] : Array Value)))).get? b = some o :=
    fun b o e => (Heap.get?_update_other _ _ (Ne.symm (Nat.ne_of_lt (Heap.lt_size e)))).trans (Heap.get?_push_of_some _ e)
  refine wpAny_bind (wpAny_letGo ?_)
  refine extend_X (A := A.in1) hh hroom hlim aL aD (Nat.ne_of_gt hL) gD (fun b o e => oth b o (hB b o e)) ?_ hgs hAB (hw.later fun b o _ e => oth b o e) hS₂ hsz fun s' vs c' k hb ho hS' hT => ?_
  · obtain ⟨og, nm, qn, h1, h2⟩ := hg
    exact ⟨og, nm, qn, oth a og h1, h2⟩
  · exact ⟨rfl, hQ s' vs c' ⟨fun b o h1 h2 h3 e => k.1 b o h1 h2 h3 (oth b o e), k.2⟩ hb ho hS' hT⟩
end
end Mine

end
section
open PySem PySem.W PySem.W.X PyProof.Rows PySem.Calls
set_option maxHeartbeats 8000000
namespace Mine

theorem am_obj {w : World} {h : Heap} (X : (KF w.params).In h) : ∃ oc od fd sl, h.get? 165 = some ⟨oc, od, .func fd, sl⟩ ∧ fd.scope = gScope ∧ fd.body = .stmts gBody ∧ fd.globals = mainGlobals ∧ fd.closure = [] ∧ fd.qualname = "ambiguous_identifier" ∧ fd.builtins = builtinsNs ∧ fd.code = .ref 164 ∧
    (∀ v1 v2, bindArgs fd ⟨[v1, v2], []⟩ = pure ([("logical_line", v1), ("tokens", v2)] : List (Str × Value))) := ⟨_, _, _, _, X 165 _ (by rfl), rfl, rfl, rfl, rfl, rfl, rfl, rfl, fun _ _ => rfl⟩
theorem am_code {w : World} : codeIn (KF w.params) (.ref 164) "ambiguous_identifier" = true := by kernel_rfl

structure GR (g h : Heap) (gens : Array GenState) (L ta ga : Addr) (gi : Nat) : Prop where
  base : ∀ b o, g.get? b = some o → h.get? b = some o
  fr : ∃ m, Fr g L h m ∧ m "tokens" = some (.ref ta)
  gen : h.IsGen ga gi
  st : gens[gi]? = some (.fresh (.func gBody (gEnv L)))
  gaL : ga ≠ L
  lt : L < h.objs.size
  bare : AllBare gens

section
variable {w : World} {A : Around} {s : Shared} {R : Result → Shared → Prop} {h₀ : Heap} {L₀ ta : Addr} {m mg mb : Str → Option Value} {news : List (Addr × Obj)} {mean : ExcName → Option Value} {p : Program} {loose : List Str}
theorem gen_call {v1 : Value} (F : Fr h₀ L₀ s.heap m) (X : (KF w.params).In h₀) (N : News h₀ L₀ s.heap news) (T : Top p loose mean mg mb h₀) (hroom : A.depth < recursionLimit) (hAB : AllBare s.gens)
    (q : ∀ h' tk ga L, Fr h₀ L₀ h' m → News h₀ L₀ h' news → GR s.heap h' (s.gens.push (.fresh (.func gBody (gEnv L)))) L ta ga s.gens.size → R (.ok (.ret (.ref ga))) { s with heap := h', gens := s.gens.push (.fresh (.func gBody (gEnv L))), toks := tk }) :
    codeAny (model (RowW.prog (OpenRow.toRowW (OpenLaw.row PySem.Challenge.rw_bd0046_01))) w) A (.call (.ref 165) ⟨[v1, .ref ta], []⟩) R s := by
  have X1 := X.keeps F.keep
  obtain ⟨oc, od, fd, sl, ho, e1, e2, e3, e4, e5, e6, e7, e8⟩ := am_obj X1
  refine codeAny_call_generator hroom ho rfl (by rw [e1]; rfl) (by rw [e1]; rfl) e2 (by rw [e7, e5]; exact codeRec_of X1 am_code) ?_
  rw [e8, e1, e3, e4, e5, e6, e7]
  refine wpAny_pure (wpAny_newFunctionEnv (by decide +kernel) (locs rfl) (fun h₁ hns hsb => ⟨(T.nolimit.keeps F.keep).fresh _ hsb, ?_⟩) rfl)
  have hk : ∀ b o, s.heap.get? b = some o → h₁.get? b = some o := fun b o e => hsb.extBut b o (Nat.ne_of_lt (Heap.lt_size e)) (Heap.get?_push_of_some _ e)
  have hk2 := fun (og : Obj) b o e => Heap.get?_push_of_some og (hk b o e)
  have hlt := hns.lt
  refine q _ _ _ s.heap.objs.size (F.keeps (hk2 _)) (N.keepsAll (hk2 _)) ⟨hk2 _, ⟨_, Fr.push ⟨hns, hk, Nat.le_refl _⟩ _, rfl⟩, ⟨_, _, _, Heap.get?_push_size _ rfl, rfl, rfl, rfl⟩, ?_, Nat.ne_of_gt hlt, ?_, AllBare.push hAB rfl⟩
  · exact Array.getElem?_push_size
  · rw [Heap.size_push]; exact Nat.lt_succ_of_lt hlt

theorem list_call {g : Heap} {L ga : Addr} {gi : Nat} {tks : List TK} {t0 : TK} {rest : List TK} {Q : Value → Shared → Prop} {E : Value → Shared → Prop} (G : GR g s.heap s.gens L ta ga gi) (hA : A.handled = none) (hroom : A.depth < recursionLimit) (X : (KF w.params).In h₀) (T : Top p loose mean mg mb h₀) (hg : ∀ b o, h₀.get? b = some o → g.get? b = some o)
    (Y : ToksIn g ta tks) (hdt : tks = t0 :: rest) (hsz : (grun none false 0 t0.text t0.sv rest).length < sizeLine)
    (q : ∀ h' gens' dr tk vs D c', (∀ b o, g.get? b = some o → h'.get? b = some o) → h'.get? D = some { cls := .type "list", data := .seq vs.toArray c' } → g.get? D = none → AllTup L h' vs (grun none false 0 t0.text t0.sv rest) → AllBare gens' → Q (.ref D) { heap := h', gens := gens', drawn := dr, toks := tk, os := s.os }) :
    wpAny (model (RowW.prog (OpenRow.toRowW (OpenLaw.row PySem.Challenge.rw_bd0046_01))) w) A (call (.type "list") [.ref ga]) Q E s := by
  obtain ⟨hB, ⟨m', F, hm⟩, hgen, hst, hgaL, hlt, hb⟩ := G
  have Tg := T.keeps hg
  refine list_gen_X (os := grun none false 0 t0.text t0.sv rest) hA hroom Tg.nolimit hgaL hlt hB hgen hst hb ?_ hsz fun s' vs c' k hb' hos hS hT => ?_
  · refine ⟨_, _, _, .inl ⟨rfl, rfl, rfl⟩, fun s'' hL hD => ?_⟩
    obtain ⟨oD, hD, hDc⟩ := hD
    have gD : g.get? s.heap.objs.size = none := by
      cases e : g.get? s.heap.objs.size with
      | none => rfl
      | some o => exact absurd (Heap.lt_size (hB _ _ e)) (Nat.lt_irrefl _)
    exact gen_start hA hdt (X.keeps hg) Tg Y (Nat.ne_of_lt hlt) gD hD hDc (fr_later F hL (Nat.ne_of_lt hlt) gD) hm
  · obtain ⟨h', gens', dr, tk, os⟩ := s'
    cases hos
    refine q h' gens' dr tk vs _ c' k.2 hS ?_ hT hb'
    cases e : g.get? s.heap.objs.size with
    | none => rfl
    | some o => exact absurd (Heap.lt_size (hB _ _ e)) (Nat.lt_irrefl _)
end
end Mine

end
section
open PySem PySem.W PyProof.Rows PySem.Calls Builtin
set_option maxHeartbeats 8000000
namespace Mine
def lBody : List Stmt := defBody (topSt 12)
def lScope : Scope := defScope (topSt 12)
def lb (n : Nat) : Stmt := lBody.getD n default
def tBody : List Stmt := forBody (lb 1)
def tb (n : Nat) : Stmt := tBody.getD n default
def lEnv (L : Addr) (cd : Value × Addr) : Env := envOfC "law" lScope L cd.2 cd.1
def names : List Str := ["l", "O", "I", "x", "ll"]

section
variable {w : World} {A A₀ : Around} {s : Shared} {h₀ base : Heap} {L : Addr} {m mg mb : Str → Option Value} {news : List (Addr × Obj)} {mean : ExcName → Option Value} {p : Program} {loose : List Str} {env : Env} {outer : List Env} {R : Result → Shared → Prop}

theorem names_call (B : Below A₀ base outer h₀) (F : Fr h₀ L s.heap m) (X : (KF w.params).In h₀) (N : News h₀ L s.heap news) (T : Top p loose mean mg mb h₀) (hA : A.frames = some (env :: outer)) (hf : env.frame = some L) (hke : env.scope.kind = .function)
    (hroom : A.depth < recursionLimit)
    (h : ∀ a h' vs tk, Fr h₀ L h' m → News h₀ L h' ((a, listOf vs.toArray 0) :: news) → (∀ q ∈ news, q.1 < a) → DatAll [] vs (names.map Dat.str) → R (.ok (.ret (.ref a))) { s with heap := h', toks := tk }) :
    codeAny (model (RowW.prog (OpenRow.toRowW (OpenLaw.row PySem.Challenge.rw_bd0046_01))) w) A (.call (.ref 172) ⟨[], []⟩) R s := by
  revert X; k_fill; intro X
  refine' code_def B F X N T hA hf hke ?k6 ?k7 hroom ?k9 ?kB ?_ ?c2 ?c3 ?c4 ?c5
  case k6 => k_is
  case k7 => k_is
  case k9 => exact BindsTo.of_eq rfl
  case c5 => decide
  case kB => exact locs rfl
  case c2 => exact rfl
  case c3 => exact rfl
  case c4 => exact rfl
  intro g' L' h' FG' F' N' B' X' T'
  (try dsimp only)
  k_fold
  conv => 
    arg 3
    arg 1
    whnf
  k_steps
  (rename ∀ p ∈ news, p.1 < _ => l9); (rename Fr h₀ L _ m => kF); (rename News h₀ L _ _ => kN)
  exact h _ _ [_, _, _, _, _] _ kF kN l9 (.cons (.str _ _) (.cons (.str _ _) (.cons (.str _ _) (.cons (.str _ _) (.cons (.str _ _) .nil)))))

theorem scr_len {sa : Addr} {items : List Value} {ks : List Int} {E : Value → Shared → Prop} {Q : Value → Shared → Prop} (F : Fr h₀ L s.heap m) (hL : h₀.IsList sa items.toArray) (hI : IntsAre items ks) (hlen : ¬ 63 < (ks.length : Int))
    (h : ∀ tk tk', Q (.int (ks.length : Int) tk) { s with toks := tk' }) : wpAny (model (RowW.prog (OpenRow.toRowW (OpenLaw.row PySem.Challenge.rw_bd0046_01))) w) A (call (.builtin "len") [.ref sa]) Q E s := by
  have hl : s.heap.IsList sa items.toArray := hL.at fun o e => F.keep sa o e
  have e : items.toArray.size = ks.length := by rw [List.size_toArray]; exact hI.length
  exact len_list hl (by rw [e]; omega) (by rw [e]; exact h _ _)
local macro_rules | `(tactic| walk_at "call builtin:len") => `(tactic| (k_here; (rename Fr _ _ _ _ => kF); (refine scr_len kF (by with_reducible assumption) (by with_reducible assumption) (by with_reducible assumption) ?_); intro tk' tk''))

theorem cell_call {sa : Addr} {items : List Value} {ks : List Int} {as : List Addr} {k : Int} {t : Tok} (B : Below A₀ base outer h₀) (F : Fr h₀ L s.heap m) (X : (KF w.params).In h₀) (N : News h₀ L s.heap news) (T : Top p loose mean mg mb h₀) (hA : A.frames = some (env :: outer)) (hf : env.frame = some L) (hke : env.scope.kind = .function)
    (hroom : A.depth + 10 < recursionLimit) (hL : h₀.IsList sa items.toArray) (hI : IntsAre items ks) (r0 : Reads h₀ (.ref sa) (.list (ks.map .int)) as) (hlen : ¬ 63 < (ks.length : Int)) (hk : 0 ≤ k) (hk1 : k < 100)
    (h : ∀ v h' tk tk', 0 ≤ v → Fr h₀ L h' m → News h₀ L h' news → R (.ok (.ret (.int v tk))) { s with heap := h', toks := tk' }) :
    codeAny (model (RowW.prog (OpenRow.toRowW (OpenLaw.row PySem.Challenge.rw_bd0046_01))) w) A (.call (.ref 179) ⟨[.ref sa, .int k t], []⟩) R s := by
  revert X; k_fill; intro X
  refine' code_def B F X N T hA hf hke ?k6 ?k7 (by omega) ?k9 ?kB ?_ ?c2 ?c3 ?c4 ?c5
  case k6 => k_is
  case k7 => k_is
  case k9 => exact BindsTo.of_eq rfl
  case c5 => decide
  case kB => exact locs rfl
  case c2 => exact rfl
  case c3 => exact rfl
  case c4 => exact rfl
  intro g' L' h' FG' F' N' B' X' T'
  (try dsimp only)
  k_fold
  conv => 
    arg 3
    arg 1
    whnf
  have hL' := hL.at (FG'.keep sa)
  k_steps
  all_goals ((rename Fr h₀ L _ m => kF); (rename News h₀ L _ _ => kN); exact h _ _ _ _ (by first | omega | (split <;> omega)) kF kN)
def Scr (h : Heap) (sa : Addr) (ks : List Int) : Prop := ∃ items as, h.IsList sa items.toArray ∧ IntsAre items ks ∧ Reads h (.ref sa) (.list (ks.map .int)) as ∧ ¬ 63 < (ks.length : Int)
theorem cell_callS {sa : Addr} {ks : List Int} {k : Int} {t : Tok} (B : Below A₀ base outer h₀) (F : Fr h₀ L s.heap m) (X : (KF w.params).In h₀) (N : News h₀ L s.heap news) (T : Top p loose mean mg mb h₀) (hA : A.frames = some (env :: outer)) (hf : env.frame = some L) (hke : env.scope.kind = .function)
    (hS : Scr h₀ sa ks) (hroom : A.depth + 10 < recursionLimit) (hk : 0 ≤ k) (hk1 : k < 100)
    (h : ∀ v h' tk tk', 0 ≤ v → Fr h₀ L h' m → News h₀ L h' news → R (.ok (.ret (.int v tk))) { s with heap := h', toks := tk' }) :
    codeAny (model (RowW.prog (OpenRow.toRowW (OpenLaw.row PySem.Challenge.rw_bd0046_01))) w) A (.call (.ref 179) ⟨[.ref sa, .int k t], []⟩) R s :=
  let ⟨_, _, hL, hI, r0, hlen⟩ := hS
  cell_call B F X N T hA hf hke hroom hL hI r0 hlen hk hk1 h
end
end Mine

end
section
open PySem PySem.W PyProof.Rows PySem.Calls Builtin
set_option maxHeartbeats 8000000
namespace Mine
section
variable {w : World} {A A₀ : Around} {s : Shared} {h₀ base : Heap} {L : Addr} {m mg mb : Str → Option Value} {news : List (Addr × Obj)} {mean : ExcName → Option Value} {p : Program} {loose : List Str} {outer : List Env} {R : Result → Shared → Prop}
theorem nm_item {value slice : PySem.Expr} {l : Addr} {L9 : List (Addr × Obj)} {us : List Value} {xs : List Str} {n : Nat} {k : Int} {u : Tok} {E : Value → Shared → Prop} {Q : Value → Shared → Prop} (N : News h₀ L s.heap news) (hm : (l, listOf us.toArray n) ∈ news) (hd : DatAll L9 us (xs.map Dat.str))
    (h0 : 0 ≤ k) (h1 : k < (xs.length : Int)) (hfit : k < 2 ^ 63) (h : ∀ x t, xs[k.toNat]? = some x → x ∈ xs → Q (.str x t) s)
    (hs : subscripted slice false (.ref l) (.int k u) = operate [.ref l, .int k u] (getItem (.ref l) (.int k u)) := by with_unfolding_all rfl) :
    wpAny (model (RowW.prog (OpenRow.toRowW (OpenLaw.row PySem.Challenge.rw_bd0046_01))) w) A (subscriptTail value slice (.ref l) (.int k u)) Q E s := by
  refine kd_item N hm hd h0 (by rw [List.length_map]; exact h1) hfit (fun v d hk hmem hD => ?_) hs
  rw [List.getElem?_map] at hk
  cases e : xs[k.toNat]? with
  | none => rw [e] at hk; cases hk
  | some x =>
    rw [e] at hk
    cases hk
    cases hD with
    | str _ t => exact h x t e (List.mem_of_getElem? e)
def datPair (q : Int × Str) : Dat := .tuple [.int q.1, .str q.2]

theorem words_ne {wa la : Addr} {us : List Value} {xs : List Str} {n k : Nat} {E : Value → Shared → Prop} {Q : Value → Shared → Prop} (N : News h₀ L s.heap news) (hm : (wa, listOf us.toArray n) ∈ news) (hd : DatAll [] us (xs.map Dat.str)) (hok : ∀ x ∈ xs, PyData.strOk x = true)
    (hm2 : (la, listOf #[] k) ∈ news) (hu : A.units + 64 < cLine) (h1 : xs ≠ [] → Q (.bool true) s) (h2 : xs = [] → Q (.bool false) s) : wpAny (model (RowW.prog (OpenRow.toRowW (OpenLaw.row PySem.Challenge.rw_bd0046_01))) w) A (compareOp .NotEq (.ref wa) (.ref la)) Q E s := by
  refine kqd_ne N hm rfl rfl hd (fun _ h => nomatch h) hm2 rfl (ys := []) rfl (n₂ := []) .nil (fun _ h => nomatch h) (fun d hd => ?_) (fun _ h => nomatch h) hu ?_
  · obtain ⟨x, hx, rfl⟩ := List.mem_map.mp hd
    simpa [kqdOk] using hok x hx
  · by_cases e : xs = []
    · rw [e]
      have z : (decide ((([] : List Str).map Dat.str) = [])) = true := by simp
      simp
      exact h2 e
    · simp [e]
      exact h1 e
local macro_rules | `(tactic| walk_at "eval Call") => `(tactic| (k_here; k_dflt (refine Call_ ?_)))
local macro_rules | `(tactic| walk_at "call ref") => `(tactic| (k_here; k_dflt ((rename Fr _ _ _ _ => kF); (rename News _ _ _ _ => kN); (rename Below _ _ _ _ => kB); (rename Frag.In _ _ => kX); (rename Top _ _ _ _ _ _ => kT); (rename Around.frames _ = some _ => kA); first
  | ((refine' wpAny_call (names_call kB kF kX kN kT kA rfl rfl ?k1 ?_)); (case k1 => omega); intro a' h' vs' tk' F' N' l1' D'; (try dsimp only))
  | ((rename Scr _ _ _ => kS); (refine' wpAny_call (cell_callS kB kF kX kN kT kA rfl rfl kS ?k1 ?k2 ?k3 ?_)); (case k1 => omega); (case k2 => omega); (case k3 => omega); intro v' h' t' t'' hv' F' N'; (try dsimp only)))))
local macro_rules | `(tactic| walk_at "subscriptTail") => `(tactic| (k_here; k_dflt ((rename News _ _ _ _ => kN); (rename DatAll _ _ _ => kD); (refine' nm_item kN (.head _) kD ?k1 ?k2 ?k3 ?_ ?k4); (case k1 => l_idx); (case k2 => (show _ < (5 : Int); l_idx)); (case k3 => l_idx); (case k4 => with_unfolding_all rfl); intro x' t' hk' hx')))



theorem lt_room {env : Env} (h : callerA.depth + 1 + 20 < recursionLimit) : (callerA.deeper env).depth + 20 < recursionLimit := h
/-- the state of law's frame between the statements of a turn -/
structure LF (h₀ : Heap) (L : Addr) (h : Heap) (m : Str → Option Value) (sa aa wa : Addr) (wvs avs : List Value) (n1 n2 : Nat) (oc : Obj) (rest : List (Addr × Obj)) (ws : List Str) (ps : List (Int × Str)) : Prop where
  F : Fr h₀ L h m
  N : News h₀ L h ((L + 1, oc) :: (wa, listOf wvs.toArray n1) :: (aa, listOf avs.toArray n2) :: rest)
  hoc : oc.data = .cell (some (.ref wa))
  Dw : DatAll [] wvs (ws.map Dat.str)
  Da : DatAll rest avs (ps.map datPair)
  hok : ∀ x ∈ ws, PyData.strOk x = true
  hwa : ∀ q ∈ (aa, listOf avs.toArray n2) :: rest, q.1 ≠ wa
  hcw : L + 1 ≠ wa
  hco : ∀ q ∈ (aa, listOf avs.toArray n2) :: rest, q.1 ≠ L + 1
  sm : m "script" = some (.ref sa)
  am : m "asked" = some (.ref aa)

theorem t01 {cd : Value × Addr} {sa wa aa : Addr} {oc : Obj} {wvs avs : List Value} {ks : List Int} {rest : List (Addr × Obj)} {n1 n2 : Nat} {ws : List Str} {ps : List (Int × Str)} {i : Int} {ti : Tok} {Q : Flow → Shared → Prop}
    (X : (KF w.params).In h₀) (T : Top p loose mean mg mb h₀) (hS : Scr h₀ sa ks) (hi : 0 ≤ i) (hi1 : i < 4)
    (S : LF h₀ L s.heap m sa aa wa wvs avs n1 n2 oc rest ws ps) (hat : m "at" = some (.int i ti))
    (H : ∀ h' tk m' x y tx ty ti, LF h₀ L h' m' sa aa wa wvs avs n1 n2 oc rest ws ps → m' "at" = some (.int i ti) → x ∈ names → y ∈ names → m' "one" = some (.str x tx) → m' "other" = some (.str y ty) → Q .next { s with heap := h', toks := tk }) :
    wpAny (model (RowW.prog (OpenRow.toRowW (OpenLaw.row PySem.Challenge.rw_bd0046_01))) w) (callerA.deeper (lEnv L cd)) (exec (tb 0) (lEnv L cd)) (fun f s₁ => f = .next ∧ wpAny (model (RowW.prog (OpenRow.toRowW (OpenLaw.row PySem.Challenge.rw_bd0046_01))) w) (callerA.deeper (lEnv L cd)) (exec (tb 1) (lEnv L cd)) Q (fun _ _ => False) s₁) (fun _ _ => False) s := by
  have B := below_caller h₀
  have hA : (callerA.deeper (lEnv L cd)).frames = some (lEnv L cd :: []) := Around.frames_deeper B.stack
  have hroom : (callerA.deeper (lEnv L cd)).depth + 20 < recursionLimit := lt_room (by decide +kernel)
  obtain ⟨F, N, hoc, Dw, Da, ok, hwa, hcw, hco, sm, am⟩ := S
  conv => 
    arg 3
    arg 1
    whnf
  revert X; k_fill; intro X
  unfold lEnv at *
  rw [map_or (l := [("script", .ref sa), ("at", .int i ti), ("asked", .ref aa)]) (m := m) (List.forall_mem_cons.mpr ⟨sm, List.forall_mem_cons.mpr ⟨hat, List.forall_mem_cons.mpr ⟨am, List.forall_mem_nil _⟩⟩⟩)] at F
  k_steps
  all_goals (try exact trivial)
  conv => 
    arg 3
    arg 1
    whnf
  k_steps
  all_goals (try exact trivial)
  (rename Fr _ _ _ _ => F9); (rename News _ _ _ _ => N9)
  refine H _ _ _ _ _ _ _ _ ⟨F9, fun p hp => N9 p (by repeat (first | exact hp | refine List.mem_cons_of_mem _ ?_)), hoc, Dw, Da, ok, hwa, hcw, hco, rfl, rfl⟩ rfl ?_ ?_ rfl rfl <;> assumption

theorem app_words {wa aa : Addr} {oc o2 : Obj} {us : List Value} {n : Nat} {rest : List (Addr × Obj)} {v : Value} {E : Value → Shared → Prop} {Q : Value → Shared → Prop} (F : Fr h₀ L s.heap m) (N : News h₀ L s.heap ((L + 1, oc) :: (wa, listOf us.toArray n) :: (aa, o2) :: rest))
    (h1 : ∀ q ∈ (aa, o2) :: rest, q.1 ≠ wa) (h2 : L + 1 ≠ wa) (hsz : us.length ≤ 1000)
    (q : ∀ h', Fr h₀ L h' m → News h₀ L h' ((L + 1, oc) :: (wa, listOf (us ++ [v]).toArray (n + 1)) :: (aa, o2) :: rest) → Q .none { s with heap := h' }) :
    wpAny (model (RowW.prog (OpenRow.toRowW (OpenLaw.row PySem.Challenge.rw_bd0046_01))) w) A (call (.builtin "list.append") [.ref wa, v]) Q E s := by
  refine append_K F N (.tail h2 (.head h1)) (fun h' F' N' => q h' F' ?_) (by rw [List.size_toArray]; exact Nat.le_trans hsz (by decide))
  have e : us.toArray.push v = (us ++ [v]).toArray := by simp
  rw [← e]; exact N'

local macro_rules | `(tactic| walk_at "call builtin:list.append") => `(tactic| (k_here; k_dflt ((rename Fr _ _ _ _ => kF); (rename News _ _ _ _ => kN); (refine' app_words kF (oc := ?o) (o2 := ?o2) (rest := ?r) (n := ?n) (us := ?u) (fun p hp => kN p ?k1) ?k2 ?k3 ?k4 ?_); (case k1 => (repeat (first | exact hp | refine List.mem_cons_of_mem _ ?_))); (case k2 => assumption); (case k3 => assumption); (case k4 => (have hl9 := DatAll.length (by assumption : DatAll [] _ _)); rw [List.length_map] at hl9; omega); intro h' F' N')))

theorem t2 {cd : Value × Addr} {sa wa aa : Addr} {oc : Obj} {wvs avs : List Value} {rest : List (Addr × Obj)} {n1 n2 : Nat} {ws : List Str} {ps : List (Int × Str)} {i : Int} {ti tx ty : Tok} {x y : Str} {Q : Flow → Shared → Prop}
    (X : (KF w.params).In h₀) (T : Top p loose mean mg mb h₀) (hw1 : ws.length ≤ 200)
    (S : LF h₀ L s.heap m sa aa wa wvs avs n1 n2 oc rest ws ps) (hat : m "at" = some (.int i ti)) (hx : m "one" = some (.str x tx)) (hy : m "other" = some (.str y ty))
    (H : ∀ h' tk wvs' n1', LF h₀ L h' m sa aa wa wvs' avs n1' n2 oc rest (if ws = [] then ws else ws ++ ([";"] : List Str)) ps → Q .next { s with heap := h', toks := tk }) :
    wpAny (model (RowW.prog (OpenRow.toRowW (OpenLaw.row PySem.Challenge.rw_bd0046_01))) w) (callerA.deeper (lEnv L cd)) (exec (tb 2) (lEnv L cd)) Q (fun _ _ => False) s := by
  have B := below_caller h₀
  have hA : (callerA.deeper (lEnv L cd)).frames = some (lEnv L cd :: []) := Around.frames_deeper B.stack
  have hroom : (callerA.deeper (lEnv L cd)).depth + 20 < recursionLimit := lt_room (by decide +kernel)
  obtain ⟨F, N, hoc, Dw, Da, ok, hwa, hcw, hco, sm, am⟩ := S
  conv => 
    arg 3
    arg 1
    whnf
  revert X; k_fill; intro X
  unfold lEnv at *
  k_steps
  all_goals ((rename Fr _ _ _ _ => F9); (rename News _ _ _ _ => N9))
  · have hw : ws = [] := by
      rename decide _ = _ => hz
      simpa using hz
    rw [if_pos hw] at H
    exact H _ _ wvs n1 ⟨F9, fun p hp => N9 p (by repeat (first | exact hp | refine List.mem_cons_of_mem _ ?_)), hoc, Dw, Da, ok, hwa, hcw, hco, sm, am⟩
  · have hw : ws ≠ [] := by
      rename decide _ = _ => hz
      simpa using hz
    rw [if_neg hw] at H
    refine H _ _ _ _ ⟨F9, N9, hoc, ?_, Da, ?_, hwa, hcw, hco, sm, am⟩
    · rw [List.map_append]
      exact Dw.append (.cons (.str _ _) .nil)
    · intro z hz
      rcases List.mem_append.mp hz with hz | hz
      · exact ok z hz
      · cases List.mem_singleton.mp hz; decide +kernel
end
end Mine

end
section
open PySem PySem.W PyProof.Rows PySem.Calls Builtin
set_option maxHeartbeats 16000000
namespace Mine
def nm741 : Str := "E741 ambiguous variable name '"
def stWords (k : Nat) (x y : Str) : List Str := match k with
  | 0 => [x, "=", "1"] | 1 => ["for", x, "in", y] | 2 => ["\x69mport", y, "as", x] | 3 => ["class", x, ":"] | 4 => ["def", x, "(", y, ",", x, "=", "1", ")", ":"] | 5 => ["x", "=", "lambda", x, ",", y, ":", x]
  | 6 => ["f", "(", x, "=", y, ")"] | 7 => ["x", "=", "(", x, ":=", y, ")"] | 8 => ["global", x] | 9 => [x, "==", y] | _ => ["with", y, "as", x, ":"]
def stPairs (k : Nat) : List (Int × Str) := match k with
  | 0 => [(0, nm741)] | 1 => [(1, nm741)] | 2 => [(3, nm741)] | 3 => [(1, "E742 ambiguous class definition '")] | 4 => [(1, "E743 ambiguous function definition '"), (3, nm741), (5, nm741)] | 5 => [(3, nm741), (5, nm741)]
  | 6 => [] | 7 => [(3, nm741)] | 8 => [(1, nm741)] | 9 => [] | _ => [(3, nm741)]
def Hold (p : Prop) : Prop := p
theorem hold_ {p : Prop} (h : Hold p) : p := h
section
variable {w : World} {A A₀ : Around} {s : Shared} {h₀ base : Heap} {L : Addr} {m mg mb : Str → Option Value} {news : List (Addr × Obj)} {mean : ExcName → Option Value} {p : Program} {loose : List Str} {outer : List Env} {R : Result → Shared → Prop}
local macro_rules | `(tactic| walk_at "eval List") => `(tactic| (k_here; k_dflt (refine hold_ ?_)))
theorem AtomEv.name {A : Around} {n : Str} {sc : Scope} {a : Addr} {cd : Value} {y x : Str} {tx : Tok} {p : Pos} (hke : sc.kind = .function) (hk : (envOf n sc L a cd).kindOf y = some .local) (hd : (y == ("__debug__" : Str)) = false) (hm : m y = some (.str x tx)) : AtomEv (RowW.prog (OpenRow.toRowW (OpenLaw.row PySem.Challenge.rw_bd0046_01))) w A (envOf n sc L a cd) h₀ L m (.Name y p) x :=
  ⟨fun _ => rfl, fun s _ _ F h => PyProof.Rows.ld F hm (h _ s.toks) hke hk hd⟩
theorem statement_call {kk : Int} {tk0 tx ty : Tok} {x y : Str} {env : Env} (B : Below A₀ base outer h₀) (F : Fr h₀ L s.heap m) (X : (KF w.params).In h₀) (N : News h₀ L s.heap news) (T : Top p loose mean mg mb h₀) (hA : A.frames = some (env :: outer)) (hf : env.frame = some L) (hke : env.scope.kind = .function)
    (hroom : A.depth + 10 < recursionLimit)
    (h : ∀ h' tk k D mo pa mvs pvs led, k ≤ 10 → Fr h₀ L h' m → News h₀ L h' ((D, { cls := .type "tuple", data := .seq #[.ref mo, .ref pa] }) :: led) → (∀ q ∈ news, q ∈ led) → (mo, listOf mvs.toArray 0) ∈ led → (pa, listOf pvs.toArray 0) ∈ led → DatAll [] mvs ((stWords k x y).map Dat.str) → DatAll led pvs ((stPairs k).map datPair) →
      R (.ok (.ret (.ref D))) { s with heap := h', toks := tk }) :
    codeAny (model (RowW.prog (OpenRow.toRowW (OpenLaw.row PySem.Challenge.rw_bd0046_01))) w) A (.call (.ref 200) ⟨[.int kk tk0, .str x tx, .str y ty], []⟩) R s := by
  revert X; k_fill; intro X
  refine' code_def (binds := [("kind", .int kk tk0), ("one", .str x tx), ("other", .str y ty)]) B F X N T hA hf hke ?k6 ?k7 (by omega) ?k9 ?kB ?_ ?c2 ?c3 ?c4 ?c5
  case k6 => k_is
  case k7 => k_is
  case k9 => exact BindsTo.of_eq rfl
  case c5 => decide
  case kB => exact locs rfl
  case c2 => exact rfl
  case c3 => exact rfl
  case c4 => exact rfl
  intro g' L' h' FG' F' N' B' X' T'
  (try dsimp only)
  k_fold
  conv => 
    arg 3
    arg 1
    whnf
  k_steps
  · unfold Hold
    (rename Fr g' L' _ _ => kF); (rename News g' L' _ _ => kN)
    refine list_atoms (xs := stWords 0 x y) (.cons (.name (y := "one") (tx := tx) rfl rfl rfl rfl) (.cons .const (.cons .const (.nil)))) kF kN (Nat.le_of_ble_eq_true rfl) ?_
    intro D1 h1 vs1 tk1 F1 N1 l1 M1
    k_steps
    unfold Hold
    (rename Fr g' L' _ _ => kF); (rename News g' L' _ _ => kN)
    refine list_prs (ps := stPairs 0) (.cons (.name (y := "name") rfl rfl rfl rfl) (.nil)) kF kN (Nat.le_of_ble_eq_true rfl) ?_
    intro D2 h2 vs2 tk2 tups F2 N2 l2 M2
    k_steps
    (rename Fr h₀ L _ m => kF); (rename News h₀ L _ _ => kN)
    exact h _ _ 0 _ _ _ _ _ _ (by decide) kF kN (fun q hq => .tail _ (List.mem_append_right _ (.tail _ hq))) (.tail _ (List.mem_append_right _ (.head _))) (.head _) M1 (M2.mono fun q hq => .tail _ hq)
  · unfold Hold
    (rename Fr g' L' _ _ => kF); (rename News g' L' _ _ => kN)
    refine list_atoms (xs := stWords 1 x y) (.cons .const (.cons (.name (y := "one") (tx := tx) rfl rfl rfl rfl) (.cons .const (.cons (.name (y := "other") (tx := ty) rfl rfl rfl rfl) (.nil))))) kF kN (Nat.le_of_ble_eq_true rfl) ?_
    intro D1 h1 vs1 tk1 F1 N1 l1 M1
    k_steps
    unfold Hold
    (rename Fr g' L' _ _ => kF); (rename News g' L' _ _ => kN)
    refine list_prs (ps := stPairs 1) (.cons (.name (y := "name") rfl rfl rfl rfl) (.nil)) kF kN (Nat.le_of_ble_eq_true rfl) ?_
    intro D2 h2 vs2 tk2 tups F2 N2 l2 M2
    k_steps
    (rename Fr h₀ L _ m => kF); (rename News h₀ L _ _ => kN)
    exact h _ _ 1 _ _ _ _ _ _ (by decide) kF kN (fun q hq => .tail _ (List.mem_append_right _ (.tail _ hq))) (.tail _ (List.mem_append_right _ (.head _))) (.head _) M1 (M2.mono fun q hq => .tail _ hq)
  · unfold Hold
    (rename Fr g' L' _ _ => kF); (rename News g' L' _ _ => kN)
    refine list_atoms (xs := stWords 2 x y) (.cons .const (.cons (.name (y := "other") (tx := ty) rfl rfl rfl rfl) (.cons .const (.cons (.name (y := "one") (tx := tx) rfl rfl rfl rfl) (.nil))))) kF kN (Nat.le_of_ble_eq_true rfl) ?_
    intro D1 h1 vs1 tk1 F1 N1 l1 M1
    k_steps
    unfold Hold
    (rename Fr g' L' _ _ => kF); (rename News g' L' _ _ => kN)
    refine list_prs (ps := stPairs 2) (.cons (.name (y := "name") rfl rfl rfl rfl) (.nil)) kF kN (Nat.le_of_ble_eq_true rfl) ?_
    intro D2 h2 vs2 tk2 tups F2 N2 l2 M2
    k_steps
    (rename Fr h₀ L _ m => kF); (rename News h₀ L _ _ => kN)
    exact h _ _ 2 _ _ _ _ _ _ (by decide) kF kN (fun q hq => .tail _ (List.mem_append_right _ (.tail _ hq))) (.tail _ (List.mem_append_right _ (.head _))) (.head _) M1 (M2.mono fun q hq => .tail _ hq)
  · unfold Hold
    (rename Fr g' L' _ _ => kF); (rename News g' L' _ _ => kN)
    refine list_atoms (xs := stWords 3 x y) (.cons .const (.cons (.name (y := "one") (tx := tx) rfl rfl rfl rfl) (.cons .const (.nil)))) kF kN (Nat.le_of_ble_eq_true rfl) ?_
    intro D1 h1 vs1 tk1 F1 N1 l1 M1
    k_steps
    unfold Hold
    (rename Fr g' L' _ _ => kF); (rename News g' L' _ _ => kN)
    refine list_prs (ps := stPairs 3) (.cons .const (.nil)) kF kN (Nat.le_of_ble_eq_true rfl) ?_
    intro D2 h2 vs2 tk2 tups F2 N2 l2 M2
    k_steps
    (rename Fr h₀ L _ m => kF); (rename News h₀ L _ _ => kN)
    exact h _ _ 3 _ _ _ _ _ _ (by decide) kF kN (fun q hq => .tail _ (List.mem_append_right _ (.tail _ hq))) (.tail _ (List.mem_append_right _ (.head _))) (.head _) M1 (M2.mono fun q hq => .tail _ hq)
  · unfold Hold
    (rename Fr g' L' _ _ => kF); (rename News g' L' _ _ => kN)
    refine list_atoms (xs := stWords 4 x y) (.cons .const (.cons (.name (y := "one") (tx := tx) rfl rfl rfl rfl) (.cons .const (.cons (.name (y := "other") (tx := ty) rfl rfl rfl rfl) (.cons .const (.cons (.name (y := "one") (tx := tx) rfl rfl rfl rfl) (.cons .const (.cons .const (.cons .const (.cons .const (.nil))))))))))) kF kN (Nat.le_of_ble_eq_true rfl) ?_
    intro D1 h1 vs1 tk1 F1 N1 l1 M1
    k_steps
    unfold Hold
    (rename Fr g' L' _ _ => kF); (rename News g' L' _ _ => kN)
    refine list_prs (ps := stPairs 4) (.cons .const (.cons (.name (y := "name") rfl rfl rfl rfl) (.cons (.name (y := "name") rfl rfl rfl rfl) (.nil)))) kF kN (Nat.le_of_ble_eq_true rfl) ?_
    intro D2 h2 vs2 tk2 tups F2 N2 l2 M2
    k_steps
    (rename Fr h₀ L _ m => kF); (rename News h₀ L _ _ => kN)
    exact h _ _ 4 _ _ _ _ _ _ (by decide) kF kN (fun q hq => .tail _ (List.mem_append_right _ (.tail _ hq))) (.tail _ (List.mem_append_right _ (.head _))) (.head _) M1 (M2.mono fun q hq => .tail _ hq)
  · unfold Hold
    (rename Fr g' L' _ _ => kF); (rename News g' L' _ _ => kN)
    refine list_atoms (xs := stWords 5 x y) (.cons .const (.cons .const (.cons .const (.cons (.name (y := "one") (tx := tx) rfl rfl rfl rfl) (.cons .const (.cons (.name (y := "other") (tx := ty) rfl rfl rfl rfl) (.cons .const (.cons (.name (y := "one") (tx := tx) rfl rfl rfl rfl) (.nil))))))))) kF kN (Nat.le_of_ble_eq_true rfl) ?_
    intro D1 h1 vs1 tk1 F1 N1 l1 M1
    k_steps
    unfold Hold
    (rename Fr g' L' _ _ => kF); (rename News g' L' _ _ => kN)
    refine list_prs (ps := stPairs 5) (.cons (.name (y := "name") rfl rfl rfl rfl) (.cons (.name (y := "name") rfl rfl rfl rfl) (.nil))) kF kN (Nat.le_of_ble_eq_true rfl) ?_
    intro D2 h2 vs2 tk2 tups F2 N2 l2 M2
    k_steps
    (rename Fr h₀ L _ m => kF); (rename News h₀ L _ _ => kN)
    exact h _ _ 5 _ _ _ _ _ _ (by decide) kF kN (fun q hq => .tail _ (List.mem_append_right _ (.tail _ hq))) (.tail _ (List.mem_append_right _ (.head _))) (.head _) M1 (M2.mono fun q hq => .tail _ hq)
  · unfold Hold
    (rename Fr g' L' _ _ => kF); (rename News g' L' _ _ => kN)
    refine list_atoms (xs := stWords 6 x y) (.cons .const (.cons .const (.cons (.name (y := "one") (tx := tx) rfl rfl rfl rfl) (.cons .const (.cons (.name (y := "other") (tx := ty) rfl rfl rfl rfl) (.cons .const (.nil))))))) kF kN (Nat.le_of_ble_eq_true rfl) ?_
    intro D1 h1 vs1 tk1 F1 N1 l1 M1
    k_steps
    unfold Hold
    (rename Fr g' L' _ _ => kF); (rename News g' L' _ _ => kN)
    refine list_prs (ps := stPairs 6) (.nil) kF kN (Nat.le_of_ble_eq_true rfl) ?_
    intro D2 h2 vs2 tk2 tups F2 N2 l2 M2
    k_steps
    (rename Fr h₀ L _ m => kF); (rename News h₀ L _ _ => kN)
    exact h _ _ 6 _ _ _ _ _ _ (by decide) kF kN (fun q hq => .tail _ (List.mem_append_right _ (.tail _ hq))) (.tail _ (List.mem_append_right _ (.head _))) (.head _) M1 (M2.mono fun q hq => .tail _ hq)
  · unfold Hold
    (rename Fr g' L' _ _ => kF); (rename News g' L' _ _ => kN)
    refine list_atoms (xs := stWords 7 x y) (.cons .const (.cons .const (.cons .const (.cons (.name (y := "one") (tx := tx) rfl rfl rfl rfl) (.cons .const (.cons (.name (y := "other") (tx := ty) rfl rfl rfl rfl) (.cons .const (.nil)))))))) kF kN (Nat.le_of_ble_eq_true rfl) ?_
    intro D1 h1 vs1 tk1 F1 N1 l1 M1
    k_steps
    unfold Hold
    (rename Fr g' L' _ _ => kF); (rename News g' L' _ _ => kN)
    refine list_prs (ps := stPairs 7) (.cons (.name (y := "name") rfl rfl rfl rfl) (.nil)) kF kN (Nat.le_of_ble_eq_true rfl) ?_
    intro D2 h2 vs2 tk2 tups F2 N2 l2 M2
    k_steps
    (rename Fr h₀ L _ m => kF); (rename News h₀ L _ _ => kN)
    exact h _ _ 7 _ _ _ _ _ _ (by decide) kF kN (fun q hq => .tail _ (List.mem_append_right _ (.tail _ hq))) (.tail _ (List.mem_append_right _ (.head _))) (.head _) M1 (M2.mono fun q hq => .tail _ hq)
  · unfold Hold
    (rename Fr g' L' _ _ => kF); (rename News g' L' _ _ => kN)
    refine list_atoms (xs := stWords 8 x y) (.cons .const (.cons (.name (y := "one") (tx := tx) rfl rfl rfl rfl) (.nil))) kF kN (Nat.le_of_ble_eq_true rfl) ?_
    intro D1 h1 vs1 tk1 F1 N1 l1 M1
    k_steps
    unfold Hold
    (rename Fr g' L' _ _ => kF); (rename News g' L' _ _ => kN)
    refine list_prs (ps := stPairs 8) (.cons (.name (y := "name") rfl rfl rfl rfl) (.nil)) kF kN (Nat.le_of_ble_eq_true rfl) ?_
    intro D2 h2 vs2 tk2 tups F2 N2 l2 M2
    k_steps
    (rename Fr h₀ L _ m => kF); (rename News h₀ L _ _ => kN)
    exact h _ _ 8 _ _ _ _ _ _ (by decide) kF kN (fun q hq => .tail _ (List.mem_append_right _ (.tail _ hq))) (.tail _ (List.mem_append_right _ (.head _))) (.head _) M1 (M2.mono fun q hq => .tail _ hq)
  · unfold Hold
    (rename Fr g' L' _ _ => kF); (rename News g' L' _ _ => kN)
    refine list_atoms (xs := stWords 9 x y) (.cons (.name (y := "one") (tx := tx) rfl rfl rfl rfl) (.cons .const (.cons (.name (y := "other") (tx := ty) rfl rfl rfl rfl) (.nil)))) kF kN (Nat.le_of_ble_eq_true rfl) ?_
    intro D1 h1 vs1 tk1 F1 N1 l1 M1
    k_steps
    unfold Hold
    (rename Fr g' L' _ _ => kF); (rename News g' L' _ _ => kN)
    refine list_prs (ps := stPairs 9) (.nil) kF kN (Nat.le_of_ble_eq_true rfl) ?_
    intro D2 h2 vs2 tk2 tups F2 N2 l2 M2
    k_steps
    (rename Fr h₀ L _ m => kF); (rename News h₀ L _ _ => kN)
    exact h _ _ 9 _ _ _ _ _ _ (by decide) kF kN (fun q hq => .tail _ (List.mem_append_right _ (.tail _ hq))) (.tail _ (List.mem_append_right _ (.head _))) (.head _) M1 (M2.mono fun q hq => .tail _ hq)
  · unfold Hold
    (rename Fr g' L' _ _ => kF); (rename News g' L' _ _ => kN)
    refine list_atoms (xs := stWords 10 x y) (.cons .const (.cons (.name (y := "other") (tx := ty) rfl rfl rfl rfl) (.cons .const (.cons (.name (y := "one") (tx := tx) rfl rfl rfl rfl) (.cons .const (.nil)))))) kF kN (Nat.le_of_ble_eq_true rfl) ?_
    intro D1 h1 vs1 tk1 F1 N1 l1 M1
    k_steps
    unfold Hold
    (rename Fr g' L' _ _ => kF); (rename News g' L' _ _ => kN)
    refine list_prs (ps := stPairs 10) (.cons (.name (y := "name") rfl rfl rfl rfl) (.nil)) kF kN (Nat.le_of_ble_eq_true rfl) ?_
    intro D2 h2 vs2 tk2 tups F2 N2 l2 M2
    k_steps
    (rename Fr h₀ L _ m => kF); (rename News h₀ L _ _ => kN)
    exact h _ _ 10 _ _ _ _ _ _ (by decide) kF kN (fun q hq => .tail _ (List.mem_append_right _ (.tail _ hq))) (.tail _ (List.mem_append_right _ (.head _))) (.head _) M1 (M2.mono fun q hq => .tail _ hq)
end
section
variable {w : World} {A A₀ : Around} {s : Shared} {h₀ base : Heap} {L : Addr} {m mg mb : Str → Option Value} {news : List (Addr × Obj)} {mean : ExcName → Option Value} {p : Program} {loose : List Str} {outer : List Env} {R : Result → Shared → Prop}
local macro_rules | `(tactic| walk_at "eval Call") => `(tactic| (k_here; k_dflt (refine Call_ ?_)))
local macro_rules | `(tactic| walk_at "call ref") => `(tactic| (k_here; k_dflt ((rename Fr _ _ _ _ => kF); (rename News _ _ _ _ => kN); (rename Below _ _ _ _ => kB); (rename Frag.In _ _ => kX); (rename Top _ _ _ _ _ _ => kT); (rename Around.frames _ = some _ => kA); first
  | ((rename Scr _ _ _ => kS); (refine' wpAny_call (cell_callS kB kF kX kN kT kA rfl rfl kS ?k1 ?k2 ?k3 ?_)); (case k1 => omega); (case k2 => omega); (case k3 => omega); intro v' h' t' t'' hv' F' N'; (try dsimp only))
  | (refine hold_ ?_))))

theorem t3 {cd : Value × Addr} {sa wa aa : Addr} {oc : Obj} {wvs avs : List Value} {ks : List Int} {rest : List (Addr × Obj)} {n1 n2 : Nat} {ws : List Str} {ps : List (Int × Str)} {i : Int} {ti tx ty : Tok} {x y : Str} {Q : Flow → Shared → Prop}
    (X : (KF w.params).In h₀) (T : Top p loose mean mg mb h₀) (hS : Scr h₀ sa ks) (hi : 0 ≤ i) (hi1 : i < 4)
    (S : LF h₀ L s.heap m sa aa wa wvs avs n1 n2 oc rest ws ps) (hat : m "at" = some (.int i ti)) (hx : m "one" = some (.str x tx)) (hy : m "other" = some (.str y ty))
    (H : ∀ h' tk m' k mo pa mvs pvs tups, k ≤ 10 → LF h₀ L h' m' sa aa wa wvs avs n1 n2 oc rest ws ps → m' "more" = some (.ref mo) → m' "pairs" = some (.ref pa) → News h₀ L h' tups → (mo, listOf mvs.toArray 0) ∈ tups → (pa, listOf pvs.toArray 0) ∈ tups → DatAll [] mvs ((stWords k x y).map Dat.str) → DatAll tups pvs ((stPairs k).map datPair) → Q .next { s with heap := h', toks := tk }) :
    wpAny (model (RowW.prog (OpenRow.toRowW (OpenLaw.row PySem.Challenge.rw_bd0046_01))) w) (callerA.deeper (lEnv L cd)) (exec (tb 3) (lEnv L cd)) Q (fun _ _ => False) s := by
  have B := below_caller h₀
  have hA : (callerA.deeper (lEnv L cd)).frames = some (lEnv L cd :: []) := Around.frames_deeper B.stack
  have hroom : (callerA.deeper (lEnv L cd)).depth + 20 < recursionLimit := lt_room (by decide +kernel)
  obtain ⟨F, N, hoc, Dw, Da, ok, hwa, hcw, hco, sm, am⟩ := S
  conv => 
    arg 3
    arg 1
    whnf
  revert X; k_fill; intro X
  unfold lEnv at *
  rw [map_or (l := [("script", .ref sa), ("at", .int i ti), ("asked", .ref aa), ("one", .str x tx), ("other", .str y ty)]) (m := m) (List.forall_mem_cons.mpr ⟨sm, List.forall_mem_cons.mpr ⟨hat, List.forall_mem_cons.mpr ⟨am, List.forall_mem_cons.mpr ⟨hx, List.forall_mem_cons.mpr ⟨hy, List.forall_mem_nil _⟩⟩⟩⟩⟩)] at F
  k_steps
  unfold Hold
  (rename Fr h₀ L _ _ => F9); (rename News h₀ L _ _ => N9); (rename DatAll [] _ _ => Dw9); (rename DatAll rest _ _ => Da9); (rename Obj.data _ = Data.cell _ => hc9)
  (rename Below _ _ _ _ => kB); (rename Frag.In _ _ => kX); (rename Top _ _ _ _ _ _ => kT); (rename Around.frames _ = some _ => kA)
  refine' wpAny_call (statement_call kB F9 kX N9 kT kA rfl rfl (by omega) ?_)
  intro h8 tk8 k8 D8 mo8 pa8 mvs8 pvs8 led8 hk8 F8 N8 sub8 mmo8 mpa8 Dm8 Dp8
  clear F9 N9
  k_steps
  (rename Fr h₀ L _ _ => F9); (rename News h₀ L _ _ => N9)
  exact H _ _ _ k8 mo8 pa8 mvs8 pvs8 led8 hk8 ⟨F9, fun q hq => N9 q (.tail _ (sub8 q (by repeat (first | exact hq | refine List.mem_cons_of_mem _ ?_)))), hc9, Dw9, Da9, ok, hwa, hcw, hco, rfl, rfl⟩ rfl rfl (fun q hq => N9 q (.tail _ hq)) mmo8 mpa8 Dm8 Dp8
end
end Mine

end
section
open PySem PySem.W PyProof.Rows PySem.Calls Builtin
set_option maxHeartbeats 16000000
namespace Mine
section
variable {w : World} {A A₀ : Around} {s : Shared} {h₀ base : Heap} {L : Addr} {m mg mb : Str → Option Value} {news : List (Addr × Obj)} {mean : ExcName → Option Value} {p : Program} {loose : List Str} {outer : List Env} {R : Result → Shared → Prop}
local macro_rules | `(tactic| walk_at "eval Call") => `(tactic| (k_here; k_dflt (refine Call_ ?_)))
theorem words_len {l : Addr} {us : List Value} {xs : List Str} {n : Nat} {E : Value → Shared → Prop} {Q : Value → Shared → Prop} (N : News h₀ L s.heap news) (hm : (l, listOf us.toArray n) ∈ news) (hd : DatAll [] us (xs.map Dat.str)) (hfit : xs.length ≤ 1000)
    (h : ∀ t tk, Q (.int (xs.length : Int) t) { s with toks := tk }) : wpAny (model (RowW.prog (OpenRow.toRowW (OpenLaw.row PySem.Challenge.rw_bd0046_01))) w) A (call (.builtin "len") [.ref l]) Q E s := by
  refine kd_len N hm hd (by rw [List.length_map]; omega) ?_
  rw [List.length_map]
  exact h _ _
local macro_rules | `(tactic| walk_at "call builtin:len") => `(tactic| (k_here; k_dflt ((rename News _ _ _ _ => kN); (rename DatAll [] _ _ => kD); (refine' words_len kN ?k1 kD ?k2 ?_); (case k1 => (repeat (first | exact .head _ | refine' .tail _ ?_))); (case k2 => omega); intro t' tk')))
theorem compEnd4 {I C D : Addr} {s₁ : Shared} {oI oC oD : Obj} {S : List (Addr × Obj) → Prop} {nx : Value → List (Addr × Obj) → Prop} {y : Value} {h' : Heap} {tk : Nat} {t : Addr × Obj} {r : List (Addr × Obj)}
    (F : Fr h₀ L h' m) (N : News h₀ L h' (t :: (I, oI) :: (C, oC) :: (D, oD) :: r)) (off : LCg.Off3 I C D r) (h1 : @Ne Nat t.1 I) (h2 : @Ne Nat t.1 C) (h3 : @Ne Nat t.1 D) (hS : S (t :: r)) (q : nx y (t :: r)) :
    LCg.CompEnd h₀ L m s₁ I oI C oC D oD S nx y { s₁ with heap := h', toks := tk } := by
  refine LCg.CompEnd.intro F N (t :: r) (fun p hp => ?_) ⟨⟨h1, h2, h3⟩, off⟩ hS q
  simp only [List.mem_cons] at hp ⊢
  rcases hp with h | h | h | h | h <;> simp [h]
local macro_rules | `(tactic| walk_at "CompEnd") => `(tactic| ((rename Fr _ _ _ _ => kF); (rename News _ _ _ _ => kN); (refine' compEnd4 kF kN (by assumption) ?h1 ?h2 ?h3 ?h4 ?_); (case h1 => dsimp only; omega); (case h2 => dsimp only; omega); (case h3 => dsimp only; omega); (case h4 => exact Or.inr ⟨_, (by repeat (first | exact .head _ | refine' .tail _ ?_)), rfl, _, rfl⟩)))
theorem add_ll {l b : Addr} {vs us : List Value} {na nb : Nat} {E : Value → Shared → Prop} {Q : Value → Shared → Prop} (F : Fr h₀ L s.heap m) (N : News h₀ L s.heap news) (hl : (l, listOf vs.toArray na) ∈ news) (hb : (b, listOf us.toArray nb) ∈ news) (h1 : vs.length ≤ 1000) (h2 : us.length ≤ 1000)
    (h : ∀ D h', Fr h₀ L h' m → News h₀ L h' ((D, listOf (vs ++ us).toArray 0) :: news) → (∀ q ∈ news, q.1 < D) → Q (.ref D) { s with heap := h' }) : wpAny (model (RowW.prog (OpenRow.toRowW (OpenLaw.row PySem.Challenge.rw_bd0046_01))) w) A (binaryOp .Add (.ref l) (.ref b)) Q E s := by
  refine add_lists F N ⟨_, (N _ hl).1, rfl, na, rfl⟩ ⟨_, (N _ hb).1, rfl, nb, rfl⟩ (fun h' F' N' => h _ h' F' N' fun q hq => Heap.lt_size (N q hq).1) (Nat.le_trans (by omega : vs.length + us.length ≤ 2000) (by decide))
local macro_rules | `(tactic| walk_at "binaryOp Add ref ref") => `(tactic| (k_here; (with_reducible show wpAny _ _ (binaryOp _ (Value.ref _) (Value.ref _)) _ _ _); k_dflt ((rename Fr _ _ _ _ => kF); (rename News _ _ _ _ => kN); (refine' add_ll kF kN ?h1 ?h2 ?h3 ?h4 ?_); (case h1 => (repeat (first | exact .head _ | refine' .tail _ ?_))); (case h2 => (repeat (first | exact .head _ | refine' .tail _ ?_))); (case h3 => first | assumption | exact Nat.le_of_ble_eq_true rfl); (case h4 => first | assumption | exact Nat.le_of_ble_eq_true rfl); intro D' h' F' N' l1')))

theorem datAll_filter {h' : Heap} {wa : Addr} {oc : Obj} {big : List (Addr × Obj)} {xs : Array Value} {n1 : Nat} {v0 : Option Value} (N9 : News h₀ L h' big) (hw : (wa, listOf xs n1) ∈ big) (hc : (L + 1, oc) ∈ big) (hoc : oc.data = .cell v0) :
    ∀ {us : List Value} {qs : List (Int × Str)}, DatAll big us (qs.map datPair) → DatAll (big.filter fun q => decide (@Ne Nat q.1 wa) && decide (@Ne Nat q.1 (L + 1))) us (qs.map datPair)
  | [], [], _ => .nil
  | [], _ :: _, h => nomatch h
  | _ :: _, [], h => nomatch h
  | u :: us, q :: qs, h => by
    cases h with
    | cons h1 r =>
      refine .cons ?_ (datAll_filter N9 hw hc hoc r)
      cases h1 with
      | @tuple a9 vs9 k9 ds9 hm hd =>
        refine .tuple (List.mem_filter.mpr ⟨hm, ?_⟩) ?_
        · have z := (N9 _ hm).1
          have n1 : ∀ e : a9 = wa, False := fun e => by
            have z' := (N9 _ hw).1
            dsimp only at z z'
            rw [e, z'] at z
            have q := congrArg Obj.cls (Option.some.inj z)
            exact absurd (Value.type.inj q) (by decide)
          have n2 : ∀ e : a9 = L + 1, False := fun e => by
            have z' := (N9 _ hc).1
            dsimp only at z z'
            rw [e, z'] at z
            have q := congrArg Obj.data (Option.some.inj z)
            rw [hoc] at q
            cases q
          simp only [Bool.and_eq_true, decide_eq_true_eq]
          exact ⟨n1, n2⟩
        · cases hd with
          | cons a b =>
            cases a
            cases b with
            | cons c d =>
              cases c
              cases d
              exact .cons (.int _ _) (.cons (.str _ _) .nil)

theorem LF_asked {cdm : Str → Option Value} {h' : Heap} {sa aa wa AA : Addr} {oc : Obj} {wvs avs us : List Value} {rest big : List (Addr × Obj)} {n1 n2 : Nat} {ws : List Str} {ps qs : List (Int × Str)}
    (F9 : Fr h₀ L h' cdm) (N9 : News h₀ L h' big) (hA : (AA, listOf (avs ++ us).toArray 0) ∈ big) (lw : wa < AA) (lc : L + 1 < AA) (hD : DatAll big us (qs.map datPair))
    (hc : ∀ q ∈ (L + 1, oc) :: (wa, listOf wvs.toArray n1) :: (aa, listOf avs.toArray n2) :: rest, q ∈ big)
    (hoc : oc.data = .cell (some (.ref wa))) (Dw : DatAll [] wvs (ws.map Dat.str)) (Da : DatAll rest avs (ps.map datPair)) (hok : ∀ x ∈ ws, PyData.strOk x = true)
    (hwa : ∀ q ∈ (aa, listOf avs.toArray n2) :: rest, q.1 ≠ wa) (hcw : L + 1 ≠ wa) (hco : ∀ q ∈ (aa, listOf avs.toArray n2) :: rest, q.1 ≠ L + 1) (sm : cdm "script" = some (.ref sa)) (am : cdm "asked" = some (.ref AA)) :
    LF h₀ L h' cdm sa AA wa wvs (avs ++ us) n1 0 oc ((big.filter fun q => decide (@Ne Nat q.1 wa) && decide (@Ne Nat q.1 (L + 1))) ++ rest) ws (ps ++ qs) := by
  refine ⟨F9, fun p hp => N9 p ?_, hoc, Dw, ?_, hok, ?_, hcw, ?_, sm, am⟩
  · rcases List.mem_cons.mp hp with rfl | hp
    · exact hc _ (.head _)
    rcases List.mem_cons.mp hp with rfl | hp
    · exact hc _ (.tail _ (.head _))
    rcases List.mem_cons.mp hp with rfl | hp
    · exact hA
    rcases List.mem_append.mp hp with hp | hp
    · exact (List.mem_filter.mp hp).1
    · exact hc _ (.tail _ (.tail _ (.tail _ hp)))
  · rw [List.map_append]
    exact (Da.mono fun q hq => List.mem_append_right _ hq).append ((datAll_filter N9 (hc _ (.tail _ (.head _))) (hc _ (.head _)) hoc hD).mono fun q hq => List.mem_append_left _ hq)
  · intro q hq
    rcases List.mem_cons.mp hq with rfl | hq
    · exact Nat.ne_of_gt lw
    rcases List.mem_append.mp hq with hq | hq
    · have z := (List.mem_filter.mp hq).2
      simp only [Bool.and_eq_true, decide_eq_true_eq] at z
      exact z.1
    · exact hwa q (.tail _ hq)
  · intro q hq
    rcases List.mem_cons.mp hq with rfl | hq
    · exact Nat.ne_of_gt lc
    rcases List.mem_append.mp hq with hq | hq
    · have z := (List.mem_filter.mp hq).2
      simp only [Bool.and_eq_true, decide_eq_true_eq] at z
      exact z.2
    · exact hco q (.tail _ hq)

theorem t4_0 {cd : Value × Addr} {sa wa aa mo pa : Addr} {oc : Obj} {wvs avs mvs : List Value} {rest : List (Addr × Obj)} {n1 n2 : Nat} {ws : List Str} {ps : List (Int × Str)} {Q : Flow → Shared → Prop}
    (X : (KF w.params).In h₀) (T : Top p loose mean mg mb h₀) (hw1 : ws.length ≤ 200) (ha1 : ps.length ≤ 200)
    (S : LF h₀ L s.heap m sa aa wa wvs avs n1 n2 oc rest ws ps) (pm : m "pairs" = some (.ref pa)) (mm : m "more" = some (.ref mo))
    (N : News h₀ L s.heap ((pa, listOf #[] 0) :: (mo, listOf mvs.toArray 0) :: (L + 1, oc) :: (wa, listOf wvs.toArray n1) :: (aa, listOf avs.toArray n2) :: rest))
    (H : ∀ h' tk m' aa' avs' n2' rest', LF h₀ L h' m' sa aa' wa wvs avs' n1 n2' oc rest' ws (ps ++ []) → (∀ q ∈ rest, q ∈ rest') → m' "more" = some (.ref mo) → News h₀ L h' [(mo, listOf mvs.toArray 0)] → Q .next { s with heap := h', toks := tk }) :
    wpAny (model (RowW.prog (OpenRow.toRowW (OpenLaw.row PySem.Challenge.rw_bd0046_01))) w) (callerA.deeper (lEnv L cd)) (exec (tb 4) (lEnv L cd)) Q (fun _ _ => False) s := by
  have B := below_caller h₀
  have hA : (callerA.deeper (lEnv L cd)).frames = some (lEnv L cd :: []) := Around.frames_deeper B.stack
  obtain ⟨F, N0, hoc, Dw, Da, ok, hwa, hcw, hco, sm, am⟩ := S
  have hal : avs.length ≤ 1000 := by have z := Da.length; rw [List.length_map] at z; omega
  conv => 
    arg 3
    arg 1
    whnf
  revert X; k_fill; intro X
  unfold lEnv at *
  clear N0
  rw [map_or (l := [("asked", .ref aa), ("pairs", .ref pa), ("script", .ref sa), ("more", .ref mo)]) (m := m) (List.forall_mem_cons.mpr ⟨am, List.forall_mem_cons.mpr ⟨pm, List.forall_mem_cons.mpr ⟨sm, List.forall_mem_cons.mpr ⟨mm, List.forall_mem_nil _⟩⟩⟩⟩)] at F
  k_steps
  (rename Fr _ _ _ _ => F9); (rename News _ _ _ _ => N9); (rename ∀ q : Addr × Obj, q ∈ _ → q.1 < _ => l9)
  have lw := l9 (wa, listOf wvs.toArray n1) (by repeat (first | exact .head _ | refine' .tail _ ?_))
  have lc := l9 (L + 1, oc) (by repeat (first | exact .head _ | refine' .tail _ ?_))
  dsimp only at lw lc
  refine' H _ _ _ _ _ _ _ (LF_asked (n1 := n1) F9 N9 ?b1 lw lc ?b2 ?b5 hoc (by assumption) Da ok hwa hcw hco rfl rfl) (fun q hq => List.mem_append_right _ hq) rfl (fun p hp => N9 p ?b6)
  case b1 => exact .head _
  case b2 => repeat (first | exact DatAll.nil | refine' DatAll.cons (DatIn.tuple (by repeat (first | exact .head _ | refine' .tail _ ?_)) (.cons (.int _ _) (.cons (.str _ _) .nil))) ?_)
  case b5 => (intro q hq; (repeat (first | exact hq | refine' .tail _ ?_)))
  case b6 => (cases List.mem_singleton.mp hp; (repeat (first | exact .head _ | refine' .tail _ ?_)))

theorem t4_2 {cd : Value × Addr} {sa wa aa mo pa T1 T2 : Addr} {n1' : Nat} {i1 : Int} {x1 : Str} {t1 u1 : Tok} {n2' : Nat} {i2 : Int} {x2 : Str} {t2 u2 : Tok} {oc : Obj} {wvs avs mvs : List Value} {rest : List (Addr × Obj)} {n1 n2 : Nat} {ws : List Str} {ps : List (Int × Str)} {Q : Flow → Shared → Prop}
    (X : (KF w.params).In h₀) (T : Top p loose mean mg mb h₀) (hw1 : ws.length ≤ 200) (ha1 : ps.length ≤ 200)
    (S : LF h₀ L s.heap m sa aa wa wvs avs n1 n2 oc rest ws ps) (pm : m "pairs" = some (.ref pa)) (mm : m "more" = some (.ref mo))
    (N : News h₀ L s.heap ((pa, listOf #[.ref T1, .ref T2] 0) :: (mo, listOf mvs.toArray 0) :: (T1, { cls := .type "tuple", data := .seq #[.int i1 t1, .str x1 u1] n1' }) :: (T2, { cls := .type "tuple", data := .seq #[.int i2 t2, .str x2 u2] n2' }) :: (L + 1, oc) :: (wa, listOf wvs.toArray n1) :: (aa, listOf avs.toArray n2) :: rest))
    (H : ∀ h' tk m' aa' avs' n2' rest', LF h₀ L h' m' sa aa' wa wvs avs' n1 n2' oc rest' ws (ps ++ [((ws.length : Int) + i1, x1), ((ws.length : Int) + i2, x2)]) → (∀ q ∈ rest, q ∈ rest') → m' "more" = some (.ref mo) → News h₀ L h' [(mo, listOf mvs.toArray 0)] → Q .next { s with heap := h', toks := tk }) :
    wpAny (model (RowW.prog (OpenRow.toRowW (OpenLaw.row PySem.Challenge.rw_bd0046_01))) w) (callerA.deeper (lEnv L cd)) (exec (tb 4) (lEnv L cd)) Q (fun _ _ => False) s := by
  have B := below_caller h₀
  have hA : (callerA.deeper (lEnv L cd)).frames = some (lEnv L cd :: []) := Around.frames_deeper B.stack
  obtain ⟨F, N0, hoc, Dw, Da, ok, hwa, hcw, hco, sm, am⟩ := S
  have hal : avs.length ≤ 1000 := by have z := Da.length; rw [List.length_map] at z; omega
  conv => 
    arg 3
    arg 1
    whnf
  revert X; k_fill; intro X
  unfold lEnv at *
  clear N0
  rw [map_or (l := [("asked", .ref aa), ("pairs", .ref pa), ("script", .ref sa), ("more", .ref mo)]) (m := m) (List.forall_mem_cons.mpr ⟨am, List.forall_mem_cons.mpr ⟨pm, List.forall_mem_cons.mpr ⟨sm, List.forall_mem_cons.mpr ⟨mm, List.forall_mem_nil _⟩⟩⟩⟩)] at F
  k_steps
  (rename Fr _ _ _ _ => F9); (rename News _ _ _ _ => N9); (rename ∀ q : Addr × Obj, q ∈ _ → q.1 < _ => l9)
  have lw := l9 (wa, listOf wvs.toArray n1) (by repeat (first | exact .head _ | refine' .tail _ ?_))
  have lc := l9 (L + 1, oc) (by repeat (first | exact .head _ | refine' .tail _ ?_))
  dsimp only at lw lc
  refine' H _ _ _ _ _ _ _ (LF_asked (n1 := n1) F9 N9 ?b1 lw lc ?b2 ?b5 hoc (by assumption) Da ok hwa hcw hco rfl rfl) (fun q hq => List.mem_append_right _ hq) rfl (fun p hp => N9 p ?b6)
  case b1 => exact .head _
  case b2 => repeat (first | exact DatAll.nil | refine' DatAll.cons (DatIn.tuple (by repeat (first | exact .head _ | refine' .tail _ ?_)) (.cons (.int _ _) (.cons (.str _ _) .nil))) ?_)
  case b5 => (intro q hq; (repeat (first | exact hq | refine' .tail _ ?_)))
  case b6 => (cases List.mem_singleton.mp hp; (repeat (first | exact .head _ | refine' .tail _ ?_)))

theorem t4_1 {cd : Value × Addr} {sa wa aa mo pa T1 : Addr} {n1' : Nat} {i1 : Int} {x1 : Str} {t1 u1 : Tok} {oc : Obj} {wvs avs mvs : List Value} {rest : List (Addr × Obj)} {n1 n2 : Nat} {ws : List Str} {ps : List (Int × Str)} {Q : Flow → Shared → Prop}
    (X : (KF w.params).In h₀) (T : Top p loose mean mg mb h₀) (hw1 : ws.length ≤ 200) (ha1 : ps.length ≤ 200)
    (S : LF h₀ L s.heap m sa aa wa wvs avs n1 n2 oc rest ws ps) (pm : m "pairs" = some (.ref pa)) (mm : m "more" = some (.ref mo))
    (N : News h₀ L s.heap ((pa, listOf #[.ref T1] 0) :: (mo, listOf mvs.toArray 0) :: (T1, { cls := .type "tuple", data := .seq #[.int i1 t1, .str x1 u1] n1' }) :: (L + 1, oc) :: (wa, listOf wvs.toArray n1) :: (aa, listOf avs.toArray n2) :: rest))
    (H : ∀ h' tk m' aa' avs' n2' rest', LF h₀ L h' m' sa aa' wa wvs avs' n1 n2' oc rest' ws (ps ++ [((ws.length : Int) + i1, x1)]) → (∀ q ∈ rest, q ∈ rest') → m' "more" = some (.ref mo) → News h₀ L h' [(mo, listOf mvs.toArray 0)] → Q .next { s with heap := h', toks := tk }) :
    wpAny (model (RowW.prog (OpenRow.toRowW (OpenLaw.row PySem.Challenge.rw_bd0046_01))) w) (callerA.deeper (lEnv L cd)) (exec (tb 4) (lEnv L cd)) Q (fun _ _ => False) s := by
  have B := below_caller h₀
  have hA : (callerA.deeper (lEnv L cd)).frames = some (lEnv L cd :: []) := Around.frames_deeper B.stack
  obtain ⟨F, N0, hoc, Dw, Da, ok, hwa, hcw, hco, sm, am⟩ := S
  have hal : avs.length ≤ 1000 := by have z := Da.length; rw [List.length_map] at z; omega
  conv => 
    arg 3
    arg 1
    whnf
  revert X; k_fill; intro X
  unfold lEnv at *
  clear N0
  rw [map_or (l := [("asked", .ref aa), ("pairs", .ref pa), ("script", .ref sa), ("more", .ref mo)]) (m := m) (List.forall_mem_cons.mpr ⟨am, List.forall_mem_cons.mpr ⟨pm, List.forall_mem_cons.mpr ⟨sm, List.forall_mem_cons.mpr ⟨mm, List.forall_mem_nil _⟩⟩⟩⟩)] at F
  k_steps
  (rename Fr _ _ _ _ => F9); (rename News _ _ _ _ => N9); (rename ∀ q : Addr × Obj, q ∈ _ → q.1 < _ => l9)
  have lw := l9 (wa, listOf wvs.toArray n1) (by repeat (first | exact .head _ | refine' .tail _ ?_))
  have lc := l9 (L + 1, oc) (by repeat (first | exact .head _ | refine' .tail _ ?_))
  dsimp only at lw lc
  refine' H _ _ _ _ _ _ _ (LF_asked (n1 := n1) F9 N9 ?b1 lw lc ?b2 ?b5 hoc (by assumption) Da ok hwa hcw hco rfl rfl) (fun q hq => List.mem_append_right _ hq) rfl (fun p hp => N9 p ?b6)
  case b1 => exact .head _
  case b2 => repeat (first | exact DatAll.nil | refine' DatAll.cons (DatIn.tuple (by repeat (first | exact .head _ | refine' .tail _ ?_)) (.cons (.int _ _) (.cons (.str _ _) .nil))) ?_)
  case b5 => (intro q hq; (repeat (first | exact hq | refine' .tail _ ?_)))
  case b6 => (cases List.mem_singleton.mp hp; (repeat (first | exact .head _ | refine' .tail _ ?_)))

theorem t4_3 {cd : Value × Addr} {sa wa aa mo pa T1 T2 T3 : Addr} {n1' : Nat} {i1 : Int} {x1 : Str} {t1 u1 : Tok} {n2' : Nat} {i2 : Int} {x2 : Str} {t2 u2 : Tok} {n3' : Nat} {i3 : Int} {x3 : Str} {t3 u3 : Tok} {oc : Obj} {wvs avs mvs : List Value} {rest : List (Addr × Obj)} {n1 n2 : Nat} {ws : List Str} {ps : List (Int × Str)} {Q : Flow → Shared → Prop}
    (X : (KF w.params).In h₀) (T : Top p loose mean mg mb h₀) (hw1 : ws.length ≤ 200) (ha1 : ps.length ≤ 200)
    (S : LF h₀ L s.heap m sa aa wa wvs avs n1 n2 oc rest ws ps) (pm : m "pairs" = some (.ref pa)) (mm : m "more" = some (.ref mo))
    (N : News h₀ L s.heap ((pa, listOf #[.ref T1, .ref T2, .ref T3] 0) :: (mo, listOf mvs.toArray 0) :: (T1, { cls := .type "tuple", data := .seq #[.int i1 t1, .str x1 u1] n1' }) :: (T2, { cls := .type "tuple", data := .seq #[.int i2 t2, .str x2 u2] n2' }) :: (T3, { cls := .type "tuple", data := .seq #[.int i3 t3, .str x3 u3] n3' }) :: (L + 1, oc) :: (wa, listOf wvs.toArray n1) :: (aa, listOf avs.toArray n2) :: rest))
    (H : ∀ h' tk m' aa' avs' n2' rest', LF h₀ L h' m' sa aa' wa wvs avs' n1 n2' oc rest' ws (ps ++ [((ws.length : Int) + i1, x1), ((ws.length : Int) + i2, x2), ((ws.length : Int) + i3, x3)]) → (∀ q ∈ rest, q ∈ rest') → m' "more" = some (.ref mo) → News h₀ L h' [(mo, listOf mvs.toArray 0)] → Q .next { s with heap := h', toks := tk }) :
    wpAny (model (RowW.prog (OpenRow.toRowW (OpenLaw.row PySem.Challenge.rw_bd0046_01))) w) (callerA.deeper (lEnv L cd)) (exec (tb 4) (lEnv L cd)) Q (fun _ _ => False) s := by
  have B := below_caller h₀
  have hA : (callerA.deeper (lEnv L cd)).frames = some (lEnv L cd :: []) := Around.frames_deeper B.stack
  obtain ⟨F, N0, hoc, Dw, Da, ok, hwa, hcw, hco, sm, am⟩ := S
  have hal : avs.length ≤ 1000 := by have z := Da.length; rw [List.length_map] at z; omega
  conv => 
    arg 3
    arg 1
    whnf
  revert X; k_fill; intro X
  unfold lEnv at *
  clear N0
  rw [map_or (l := [("asked", .ref aa), ("pairs", .ref pa), ("script", .ref sa), ("more", .ref mo)]) (m := m) (List.forall_mem_cons.mpr ⟨am, List.forall_mem_cons.mpr ⟨pm, List.forall_mem_cons.mpr ⟨sm, List.forall_mem_cons.mpr ⟨mm, List.forall_mem_nil _⟩⟩⟩⟩)] at F
  k_steps
  (rename Fr _ _ _ _ => F9); (rename News _ _ _ _ => N9); (rename ∀ q : Addr × Obj, q ∈ _ → q.1 < _ => l9)
  have lw := l9 (wa, listOf wvs.toArray n1) (by repeat (first | exact .head _ | refine' .tail _ ?_))
  have lc := l9 (L + 1, oc) (by repeat (first | exact .head _ | refine' .tail _ ?_))
  dsimp only at lw lc
  refine' H _ _ _ _ _ _ _ (LF_asked (n1 := n1) F9 N9 ?b1 lw lc ?b2 ?b5 hoc (by assumption) Da ok hwa hcw hco rfl rfl) (fun q hq => List.mem_append_right _ hq) rfl (fun p hp => N9 p ?b6)
  case b1 => exact .head _
  case b2 => repeat (first | exact DatAll.nil | refine' DatAll.cons (DatIn.tuple (by repeat (first | exact .head _ | refine' .tail _ ?_)) (.cons (.int _ _) (.cons (.str _ _) .nil))) ?_)
  case b5 => (intro q hq; (repeat (first | exact hq | refine' .tail _ ?_)))
  case b6 => (cases List.mem_singleton.mp hp; (repeat (first | exact .head _ | refine' .tail _ ?_)))
end
end Mine

end
section
open PySem PySem.W PyProof.Rows PySem.Calls Builtin
set_option maxHeartbeats 16000000
namespace Mine
section
variable {w : World} {A A₀ : Around} {s : Shared} {h₀ base : Heap} {L : Addr} {m mg mb : Str → Option Value} {news : List (Addr × Obj)} {mean : ExcName → Option Value} {p : Program} {loose : List Str} {outer : List Env} {R : Result → Shared → Prop}

theorem dat_one {tups : List (Addr × Obj)} {v : Value} {q : Int × Str} (h : DatIn tups v (datPair q)) : ∃ T n t u, v = .ref T ∧ (T, ({ cls := .type "tuple", data := .seq #[.int q.1 t, .str q.2 u] n } : Obj)) ∈ tups := by
  cases h with
  | tuple hm hd =>
    cases hd with
    | cons a b =>
      cases a
      cases b with
      | cons c d =>
        cases c
        cases d
        exact ⟨_, _, _, _, rfl, hm⟩

def shift (n : Nat) (qs : List (Int × Str)) : List (Int × Str) := qs.map fun q => ((n : Int) + q.1, q.2)

theorem t4 {cd : Value × Addr} {sa wa aa mo pa : Addr} {oc : Obj} {wvs avs mvs pvs : List Value} {rest tups : List (Addr × Obj)} {n1 n2 : Nat} {ws : List Str} {ps qs : List (Int × Str)} {Q : Flow → Shared → Prop}
    (X : (KF w.params).In h₀) (T : Top p loose mean mg mb h₀) (hw1 : ws.length ≤ 200) (ha1 : ps.length ≤ 200) (hq : qs.length ≤ 3)
    (S : LF h₀ L s.heap m sa aa wa wvs avs n1 n2 oc rest ws ps) (pm : m "pairs" = some (.ref pa)) (mm : m "more" = some (.ref mo))
    (N : News h₀ L s.heap tups) (hmo : (mo, listOf mvs.toArray 0) ∈ tups) (hpa : (pa, listOf pvs.toArray 0) ∈ tups) (hD : DatAll tups pvs (qs.map datPair))
    (H : ∀ h' tk m' aa' avs' n2' rest', LF h₀ L h' m' sa aa' wa wvs avs' n1 n2' oc rest' ws (ps ++ shift ws.length qs) → (∀ q ∈ rest, q ∈ rest') → m' "more" = some (.ref mo) → News h₀ L h' [(mo, listOf mvs.toArray 0)] → Q .next { s with heap := h', toks := tk }) :
    wpAny (model (RowW.prog (OpenRow.toRowW (OpenLaw.row PySem.Challenge.rw_bd0046_01))) w) (callerA.deeper (lEnv L cd)) (exec (tb 4) (lEnv L cd)) Q (fun _ _ => False) s := by
  have N0 := S.N
  rcases qs with _ | ⟨⟨i1, x1⟩, _ | ⟨⟨i2, x2⟩, _ | ⟨⟨i3, x3⟩, _ | ⟨⟨i4, x4⟩, qs⟩⟩⟩⟩ <;> simp only [List.map] at hD
  · cases hD
    exact t4_0 X T hw1 ha1 S pm mm (fun q hq => by
      rcases List.mem_cons.mp hq with rfl | hq
      · exact N _ hpa
      rcases List.mem_cons.mp hq with rfl | hq
      · exact N _ hmo
      exact N0 _ hq) H
  · cases hD with
    | cons d1 hD =>
    obtain ⟨T1, _, _, _, rfl, m1⟩ := dat_one d1
    cases hD
    exact t4_1 X T hw1 ha1 S pm mm (fun q hq => by
      rcases List.mem_cons.mp hq with rfl | hq
      · exact N _ hpa
      rcases List.mem_cons.mp hq with rfl | hq
      · exact N _ hmo
      rcases List.mem_cons.mp hq with rfl | hq
      · exact N _ m1
      exact N0 _ hq) H
  · cases hD with
    | cons d1 hD =>
    obtain ⟨T1, _, _, _, rfl, m1⟩ := dat_one d1
    cases hD with
    | cons d2 hD =>
    obtain ⟨T2, _, _, _, rfl, m2⟩ := dat_one d2
    cases hD
    exact t4_2 X T hw1 ha1 S pm mm (fun q hq => by
      rcases List.mem_cons.mp hq with rfl | hq
      · exact N _ hpa
      rcases List.mem_cons.mp hq with rfl | hq
      · exact N _ hmo
      rcases List.mem_cons.mp hq with rfl | hq
      · exact N _ m1
      rcases List.mem_cons.mp hq with rfl | hq
      · exact N _ m2
      exact N0 _ hq) H
  · cases hD with
    | cons d1 hD =>
    obtain ⟨T1, _, _, _, rfl, m1⟩ := dat_one d1
    cases hD with
    | cons d2 hD =>
    obtain ⟨T2, _, _, _, rfl, m2⟩ := dat_one d2
    cases hD with
    | cons d3 hD =>
    obtain ⟨T3, _, _, _, rfl, m3⟩ := dat_one d3
    cases hD
    exact t4_3 X T hw1 ha1 S pm mm (fun q hq => by
      rcases List.mem_cons.mp hq with rfl | hq
      · exact N _ hpa
      rcases List.mem_cons.mp hq with rfl | hq
      · exact N _ hmo
      rcases List.mem_cons.mp hq with rfl | hq
      · exact N _ m1
      rcases List.mem_cons.mp hq with rfl | hq
      · exact N _ m2
      rcases List.mem_cons.mp hq with rfl | hq
      · exact N _ m3
      exact N0 _ hq) H
  · simp only [List.length_cons] at hq; omega

local macro_rules | `(tactic| walk_at "binaryOp Add ref ref") => `(tactic| (k_here; (with_reducible show wpAny _ _ (binaryOp _ (Value.ref _) (Value.ref _)) _ _ _); k_dflt ((rename Fr _ _ _ _ => kF); (rename News _ _ _ _ => kN); (refine' add_ll kF kN ?h1 ?h2 ?h3 ?h4 ?_); (case h1 => (repeat (first | exact .head _ | refine' .tail _ ?_))); (case h2 => (repeat (first | exact .head _ | refine' .tail _ ?_))); (case h3 => first | assumption | exact Nat.le_of_ble_eq_true rfl); (case h4 => first | assumption | exact Nat.le_of_ble_eq_true rfl); intro D' h' F' N' l1')))
theorem t5 {cd : Value × Addr} {sa wa aa mo : Addr} {oc : Obj} {wvs avs mvs : List Value} {rest : List (Addr × Obj)} {n1 n2 : Nat} {ws more : List Str} {ps : List (Int × Str)} {Q : Flow → Shared → Prop}
    (X : (KF w.params).In h₀) (T : Top p loose mean mg mb h₀) (hw1 : ws.length ≤ 200) (hm1 : more.length ≤ 20) (hmok : ∀ x ∈ more, PyData.strOk x = true)
    (S : LF h₀ L s.heap m sa aa wa wvs avs n1 n2 oc rest ws ps) (mm : m "more" = some (.ref mo))
    (N : News h₀ L s.heap [(mo, listOf mvs.toArray 0)]) (Dm : DatAll [] mvs (more.map Dat.str))
    (H : ∀ h' tk m' wa' oc' wvs', LF h₀ L h' m' sa aa wa' wvs' avs 0 n2 oc' rest (ws ++ more) ps → Q .next { s with heap := h', toks := tk }) :
    wpAny (model (RowW.prog (OpenRow.toRowW (OpenLaw.row PySem.Challenge.rw_bd0046_01))) w) (callerA.deeper (lEnv L cd)) (exec (tb 5) (lEnv L cd)) Q (fun _ _ => False) s := by
  have B := below_caller h₀
  have hA : (callerA.deeper (lEnv L cd)).frames = some (lEnv L cd :: []) := Around.frames_deeper B.stack
  obtain ⟨F, N0, hoc, Dw, Da, ok, hwa, hcw, hco, sm, am⟩ := S
  have hwl : wvs.length ≤ 1000 := by have z := Dw.length; rw [List.length_map] at z; omega
  have hml : mvs.length ≤ 1000 := by have z := Dm.length; rw [List.length_map] at z; omega
  have N1 : News h₀ L s.heap ((mo, listOf mvs.toArray 0) :: (L + 1, oc) :: (wa, listOf wvs.toArray n1) :: (aa, listOf avs.toArray n2) :: rest) := fun q hq => by
    rcases List.mem_cons.mp hq with rfl | hq
    · exact N _ (.head _)
    exact N0 _ hq
  clear N0 N
  conv => 
    arg 3
    arg 1
    whnf
  revert X; k_fill; intro X
  unfold lEnv at *
  rw [map_or (l := [("more", .ref mo), ("script", .ref sa), ("asked", .ref aa)]) (m := m) (List.forall_mem_cons.mpr ⟨mm, List.forall_mem_cons.mpr ⟨sm, List.forall_mem_cons.mpr ⟨am, List.forall_mem_nil _⟩⟩⟩)] at F
  k_steps
  (rename Fr _ _ _ _ => F9); (rename News _ _ _ _ => N9); (rename ∀ q : Addr × Obj, q ∈ _ → q.1 < _ => l9)
  rename Addr => D9
  have lc := l9 (L + 1, oc) (.tail _ (.head _))
  have hoff : ∀ q ∈ (D9, listOf (wvs ++ mvs).toArray 0) :: (aa, listOf avs.toArray n2) :: rest, q.1 ≠ L + 1 := fun q hq => by
    rcases List.mem_cons.mp hq with rfl | hq
    · exact Nat.ne_of_gt lc
    · exact hco q hq
  have N2 : News h₀ L _ ((L + 1, oc) :: (D9, listOf (wvs ++ mvs).toArray 0) :: (aa, listOf avs.toArray n2) :: rest) := fun q hq => by
    rcases List.mem_cons.mp hq with rfl | hq
    · exact N9 _ (.tail _ (.tail _ (.head _)))
    rcases List.mem_cons.mp hq with rfl | hq
    · exact N9 _ (.head _)
    · exact N9 _ (.tail _ (.tail _ (.tail _ (.tail _ hq))))
  refine storeX_C (cn := "law") (cs := lScope) (L := L) (a := cd.2) (ccd := cd.1) (cl := cellsFrom (L + 1) lScope.names []) F9 N2 (c := L + 1) rfl (UpdF.head hoff) hoc (fun h' o' F' N' ho' => ?_) rfl rfl
  refine H _ _ _ D9 o' _ ⟨F', N', ho', ?_, Da, ?_, ?_, Nat.ne_of_lt lc, hco, rfl, rfl⟩
  · rw [List.map_append]
    exact DatAll.append (by assumption) Dm
  · intro z hz
    rcases List.mem_append.mp hz with hz | hz
    · exact ok z hz
    · exact hmok z hz
  · intro q hq
    refine Nat.ne_of_lt (l9 q ?_)
    exact .tail _ (.tail _ (.tail _ hq))
end
end Mine

end
section
open PySem PySem.W PyProof.Rows PySem.Calls Builtin
set_option maxHeartbeats 16000000
namespace Mine
def sepd (ws : List Str) : List Str := if ws = [] then ws else ws ++ ([";"] : List Str)
theorem names_ok : ∀ x ∈ names, PyData.strOk x = true := by decide +kernel
theorem stPairs_len (k : Nat) : (stPairs k).length ≤ 3 := by
  unfold stPairs; split <;> decide
theorem stWords_len (k : Nat) (x y : Str) : (stWords k x y).length ≤ 10 := by
  unfold stWords; split <;> simp
theorem stWords_ok (k : Nat) {x y : Str} (hx : PyData.strOk x = true) (hy : PyData.strOk y = true) : ∀ z ∈ stWords k x y, PyData.strOk z = true := by
  unfold stWords
  split <;> (repeat (first | exact List.forall_mem_nil _ | refine List.forall_mem_cons.mpr ⟨by first | exact hx | exact hy | decide +kernel, ?_⟩))
theorem sepd_len (ws : List Str) : (sepd ws).length ≤ ws.length + 1 := by
  unfold sepd; split <;> simp
theorem tBody_eq : tBody = [tb 0, tb 1, tb 2, tb 3, tb 4, tb 5] := rfl
section
variable {w : World} {A A₀ : Around} {s : Shared} {h₀ base : Heap} {L : Addr} {m mg mb : Str → Option Value} {news : List (Addr × Obj)} {mean : ExcName → Option Value} {p : Program} {loose : List Str} {outer : List Env} {R : Result → Shared → Prop}

theorem turnL {cd : Value × Addr} {sa wa aa : Addr} {oc : Obj} {wvs avs : List Value} {ks : List Int} {rest : List (Addr × Obj)} {n1 n2 : Nat} {ws : List Str} {ps : List (Int × Str)} {i : Int} {ti : Tok} {Q : Flow → Shared → Prop}
    (X : (KF w.params).In h₀) (T : Top p loose mean mg mb h₀) (hS : Scr h₀ sa ks) (hi : 0 ≤ i) (hi1 : i < 4) (hw1 : ws.length ≤ 150) (ha1 : ps.length ≤ 150)
    (S : LF h₀ L s.heap m sa aa wa wvs avs n1 n2 oc rest ws ps) (hat : m "at" = some (.int i ti))
    (H : ∀ h' tk m' k x y aa' wa' oc' wvs' avs' n1' n2' rest', k ≤ 10 → x ∈ names → y ∈ names → LF h₀ L h' m' sa aa' wa' wvs' avs' n1' n2' oc' rest' (sepd ws ++ stWords k x y) (ps ++ shift (sepd ws).length (stPairs k)) → (∀ q ∈ rest, q ∈ rest') →
      Q .next { s with heap := h', toks := tk }) :
    wpAny (model (RowW.prog (OpenRow.toRowW (OpenLaw.row PySem.Challenge.rw_bd0046_01))) w) (callerA.deeper (lEnv L cd)) (execs [tb 0, tb 1, tb 2, tb 3, tb 4, tb 5] (lEnv L cd)) Q (fun _ _ => False) s := by
  have sl := sepd_len ws
  refine wpAny_execs_cons (wpAny_mono (t01 (Q := fun f s' => f = .next ∧ wpAny (model (RowW.prog (OpenRow.toRowW (OpenLaw.row PySem.Challenge.rw_bd0046_01))) w) (callerA.deeper (lEnv L cd)) (execs [tb 2, tb 3, tb 4, tb 5] (lEnv L cd)) Q (fun _ _ => False) s') X T hS hi hi1 S hat ?_) (fun f s1 h1 => ?_) fun _ _ z => z)
  · intro h1 tk1 m1 x y tx ty ti1 S1 hat1 hx hy ex ey
    refine ⟨rfl, ?_⟩
    refine wpAny_execs_cons (t2 X T (by omega) S1 hat1 ex ey ?_)
    intro h2 tk2 wvs2 n2' S2
    have S2' : LF h₀ L h2 m1 sa aa wa wvs2 avs n2' n2 oc rest (sepd ws) ps := S2
    show wpAny _ _ (execs [tb 3, tb 4, tb 5] (lEnv L cd)) Q _ _
    refine wpAny_execs_cons (t3 X T hS hi hi1 S2' hat1 ex ey ?_)
    intro h3 tk3 m3 k mo pa mvs pvs tups hk S3 mm pm N3 hmo hpa Dm Dp
    show wpAny _ _ (execs [tb 4, tb 5] (lEnv L cd)) Q _ _
    refine wpAny_execs_cons (t4 X T (by omega) (by omega) (stPairs_len k) S3 pm mm N3 hmo hpa Dp ?_)
    intro h4 tk4 m4 aa4 avs4 n4 rest4 S4 hsub mm4 N4
    show wpAny _ _ (execs [tb 5] (lEnv L cd)) Q _ _
    refine wpAny_execs_cons (t5 X T (by omega) (Nat.le_trans (stWords_len k x y) (by decide)) (stWords_ok k (names_ok x hx) (names_ok y hy)) S4 mm4 N4 Dm ?_)
    intro h5 tk5 m5 wa5 oc5 wvs5 S5
    show wpAny _ _ (execs [] (lEnv L cd)) Q _ _
    exact wpAny_execs_nil (H _ _ _ k x y _ _ _ _ _ _ _ _ hk hx hy S5 hsub)
  · obtain ⟨rfl, h1⟩ := h1
    show wpAny _ _ (execs [tb 1, tb 2, tb 3, tb 4, tb 5] (lEnv L cd)) Q _ _
    refine wpAny_execs_cons (wpAny_mono h1 (fun f s2 h2 => ?_) fun _ _ z => z)
    obtain ⟨rfl, h2⟩ := h2
    exact h2
end
end Mine

end
section
open PySem PySem.W PyProof.Rows PySem.Calls
set_option maxHeartbeats 16000000
namespace Mine
/-! the plain law -/
def tkl (av : Nat → Addr) (sv : Nat → Value) : Nat → List Str → List TK
  | _, [] => []
  | n, x :: xs => ⟨x, av n, sv n⟩ :: tkl av sv (n + 1) xs
def exps (sv : Nat → Value) (ws : List Str) (ps : List (Int × Str)) : List (Value × Str) :=
  (ps.filter fun p => avoid (ws.getD p.1.toNat "")).map fun p => (sv p.1.toNat, msg p.2 (ws.getD p.1.toNat ""))
def fss : List (Option Int × Bool) := [(none, false), (some 0, true)]
def nextSt (k : Nat) (fs : Option Int × Bool) : Option Int × Bool := if k = 4 ∨ k = 5 then (some 0, true) else fs
def lastW (ws : List Str) : Str := ws.getLastD ""
def headW (ws : List Str) : Str := ws.headD ""
/-! the generator's run with its state at the end; e is the word behind the list -/
structure RS where
  fd : Option Int
  seen : Bool
  bd : Int
  prev : Str
  pp : Value
def nxE (e : Option Str) : List TK → Option Str
  | [] => e
  | x :: _ => some x.text
def runE (e : Option Str) : RS → List TK → List (Value × Str) × RS
  | r, [] => ([], r)
  | r, t :: rest =>
    (outs7 (gturn (nxE e rest) ⟨r.fd, r.seen, r.bd, r.prev, r.pp, t.text, t.sv, none⟩) ++ (outs8 (gturn (nxE e rest) ⟨r.fd, r.seen, r.bd, r.prev, r.pp, t.text, t.sv, none⟩) ++ (outs9 (gturn (nxE e rest) ⟨r.fd, r.seen, r.bd, r.prev, r.pp, t.text, t.sv, none⟩) ++
      (runE e ⟨(gturn (nxE e rest) ⟨r.fd, r.seen, r.bd, r.prev, r.pp, t.text, t.sv, none⟩).fd, (gturn (nxE e rest) ⟨r.fd, r.seen, r.bd, r.prev, r.pp, t.text, t.sv, none⟩).seen, (gturn (nxE e rest) ⟨r.fd, r.seen, r.bd, r.prev, r.pp, t.text, t.sv, none⟩).bd, t.text, t.sv⟩ rest).1)),
     (runE e ⟨(gturn (nxE e rest) ⟨r.fd, r.seen, r.bd, r.prev, r.pp, t.text, t.sv, none⟩).fd, (gturn (nxE e rest) ⟨r.fd, r.seen, r.bd, r.prev, r.pp, t.text, t.sv, none⟩).seen, (gturn (nxE e rest) ⟨r.fd, r.seen, r.bd, r.prev, r.pp, t.text, t.sv, none⟩).bd, t.text, t.sv⟩ rest).2)
def grunR (r : RS) (l : List TK) : List (Value × Str) := grun r.fd r.seen r.bd r.prev r.pp l
theorem runE_grun (more : List TK) : ∀ (l : List TK) (r : RS), grunR r (l ++ more) = (runE (more.head?.map (·.text)) r l).1 ++ grunR (runE (more.head?.map (·.text)) r l).2 more
  | [], r => rfl
  | t :: rest, r => by
    have e : ((rest ++ more).head?.map (·.text)) = nxE (more.head?.map (·.text)) rest := by cases rest <;> rfl
    have ih := runE_grun more rest ⟨(gturn (nxE (more.head?.map (·.text)) rest) ⟨r.fd, r.seen, r.bd, r.prev, r.pp, t.text, t.sv, none⟩).fd, (gturn (nxE (more.head?.map (·.text)) rest) ⟨r.fd, r.seen, r.bd, r.prev, r.pp, t.text, t.sv, none⟩).seen, (gturn (nxE (more.head?.map (·.text)) rest) ⟨r.fd, r.seen, r.bd, r.prev, r.pp, t.text, t.sv, none⟩).bd, t.text, t.sv⟩
    unfold grunR at ih ⊢
    rw [List.cons_append, grun, e, ih, runE]
    simp only [List.append_assoc]
/-! the values of the places are only handed on -/
def mT (f : Value → Value) (σ : TS) : TS := { σ with pp := f σ.pp, sp := f σ.sp, idn := σ.idn.map fun q => (q.1, f q.2) }
def mO (f : Value → Value) (l : List (Value × Str)) : List (Value × Str) := l.map fun o => (f o.1, o.2)
def mR (f : Value → Value) (r : RS) : RS := { r with pp := f r.pp }
theorem mT_turn (f : Value → Value) (n : Option Str) (σ : TS) : gturn n (mT f σ) = mT f (gturn n σ) := by
  have h2 : ∀ σ, f2 (mT f σ) = mT f (f2 σ) := fun σ => by unfold f2; rw [apply_ite (mT f), apply_ite (mT f)]; rfl
  have h3 : ∀ σ, f3 (mT f σ) = mT f (f3 σ) := fun σ => by unfold f3; rw [apply_ite (mT f), apply_ite (mT f)]; rfl
  have h4 : ∀ σ, f4 (mT f σ) = mT f (f4 σ) := fun σ => by unfold f4; rw [apply_ite (mT f)]; rfl
  have h5 : ∀ σ, f5 (mT f σ) = mT f (f5 σ) := fun σ => by unfold f5; rw [apply_ite (mT f)]; rfl
  have h6 : ∀ σ, f6 n (mT f σ) = mT f (f6 n σ) := fun σ => by unfold f6; rw [apply_ite (mT f)]; rfl
  unfold gturn
  rw [h2, h3, h4, h5, h6]
theorem mT_outs (f : Value → Value) (σ : TS) : outs7 (mT f σ) = mO f (outs7 σ) ∧ outs8 (mT f σ) = mO f (outs8 σ) ∧ outs9 (mT f σ) = mO f (outs9 σ) := by
  refine ⟨?_, ?_, ?_⟩
  · unfold outs7; rw [apply_ite (mO f)]; rfl
  · unfold outs8; rw [apply_ite (mO f)]; rfl
  · obtain ⟨a, b, c, d, e, g, h, idn⟩ := σ
    cases idn <;> rfl
theorem run_tkl (e : Option Str) (f : Value → Value) (av a0 : Nat → Addr) (sv s0 : Nat → Value) (hf : ∀ j, f (s0 j) = sv j) : ∀ (ws : List Str) (n : Nat) (r : RS), runE e (mR f r) (tkl av sv n ws) = (mO f (runE e r (tkl a0 s0 n ws)).1, mR f (runE e r (tkl a0 s0 n ws)).2)
  | [], n, r => rfl
  | x :: xs, n, r => by
    have en : nxE e (tkl av sv (n + 1) xs) = nxE e (tkl a0 s0 (n + 1) xs) := by cases xs <;> rfl
    have et := mT_turn f (nxE e (tkl a0 s0 (n + 1) xs)) ⟨r.fd, r.seen, r.bd, r.prev, r.pp, x, s0 n, none⟩
    have es : mT f ⟨r.fd, r.seen, r.bd, r.prev, r.pp, x, s0 n, none⟩ = ⟨r.fd, r.seen, r.bd, r.prev, f r.pp, x, sv n, none⟩ := by unfold mT; rw [hf]; rfl
    rw [es] at et
    have ih := run_tkl e f av a0 sv s0 hf xs (n + 1) ⟨(gturn (nxE e (tkl a0 s0 (n + 1) xs)) ⟨r.fd, r.seen, r.bd, r.prev, r.pp, x, s0 n, none⟩).fd, (gturn (nxE e (tkl a0 s0 (n + 1) xs)) ⟨r.fd, r.seen, r.bd, r.prev, r.pp, x, s0 n, none⟩).seen, (gturn (nxE e (tkl a0 s0 (n + 1) xs)) ⟨r.fd, r.seen, r.bd, r.prev, r.pp, x, s0 n, none⟩).bd, x, s0 n⟩
    unfold mR at ih
    dsimp only at ih
    rw [hf] at ih
    rw [tkl, tkl, runE, runE, en]
    show (outs7 (gturn _ ⟨r.fd, r.seen, r.bd, r.prev, f r.pp, x, sv n, none⟩) ++ _, _) = _
    unfold mR
    dsimp only
    rw [et, (mT_outs f _).1, (mT_outs f _).2.1, (mT_outs f _).2.2]
    show (mO f _ ++ (mO f _ ++ (mO f _ ++ (runE e ⟨_, _, _, _, _⟩ _).1)), (runE e ⟨_, _, _, _, _⟩ _).2) = _
    have e2 : ∀ τ : TS, (mT f τ).fd = τ.fd ∧ (mT f τ).seen = τ.seen ∧ (mT f τ).bd = τ.bd := fun _ => ⟨rfl, rfl, rfl⟩
    rw [(e2 _).1, (e2 _).2.1, (e2 _).2.2, ih]
    simp only [mO, List.map_append]
def vEq : Value → Value → Bool
  | .int i t, .int j u => decide (i = j) && Nat.beq t u
  | _, _ => false
theorem vEq_of {a b : Value} (h : vEq a b = true) : a = b := by
  unfold vEq at h
  split at h
  · rw [Bool.and_eq_true, decide_eq_true_eq] at h
    obtain ⟨rfl, h⟩ := h
    rw [Nat.eq_of_beq_eq_true h]
  · cases h
def oEq : List (Value × Str) → List (Value × Str) → Bool
  | [], [] => true
  | a :: l, b :: r => vEq a.1 b.1 && decide (a.2 = b.2) && oEq l r
  | _, _ => false
theorem oEq_of : ∀ {l r : List (Value × Str)}, oEq l r = true → l = r
  | [], [], _ => rfl
  | [], _ :: _, h => nomatch h
  | _ :: _, [], h => nomatch h
  | (a1, a2) :: l, (b1, b2) :: r, h => by
    unfold oEq at h
    simp only [Bool.and_eq_true, decide_eq_true_eq] at h
    rw [vEq_of h.1.1, h.1.2, oEq_of h.2]
def chkZ (W : List Str) (P : List (Int × Str)) (ns : Option Int × Bool) : List (Value × Str) × RS → Bool
  | (o, ⟨a, b, c, d, p⟩) => oEq o (exps (fun j => .int j 0) W P) && (decide (a = ns.1) && (decide (b = ns.2) && (decide (c = 0) && (decide (d = lastW W) && vEq p (.int ((W.length - 1 : Nat) : Int) 0)))))
def chk (k : Nat) (x y : Str) (fs : Option Int × Bool) : Bool :=
  chkZ (stWords k x y) (stPairs k) (nextSt k fs) (runE none ⟨fs.1, fs.2, 0, headW (stWords k x y), .int 0 0⟩ (tkl (fun _ => 0) (fun j => .int j 0) 1 (stWords k x y).tail))
def chkK (k : Nat) : Bool := names.all fun x => names.all fun y => fss.all fun fs => chk k x y fs
theorem chk_0 : chkK 0 = true := by kernel_rfl
theorem chk_1 : chkK 1 = true := by kernel_rfl
theorem chk_2 : chkK 2 = true := by kernel_rfl
theorem chk_3 : chkK 3 = true := by kernel_rfl
theorem chk_4 : chkK 4 = true := by kernel_rfl
theorem chk_5 : chkK 5 = true := by kernel_rfl
theorem chk_6 : chkK 6 = true := by kernel_rfl
theorem chk_7 : chkK 7 = true := by kernel_rfl
theorem chk_8 : chkK 8 = true := by kernel_rfl
theorem chk_9 : chkK 9 = true := by kernel_rfl
theorem chk_10 : chkK 10 = true := by kernel_rfl
theorem chk_of {k : Nat} (hk : k ∈ List.range 11) {x y : Str} (hx : x ∈ names) (hy : y ∈ names) {fs : Option Int × Bool} (hf : fs ∈ fss) : chk k x y fs = true := by
  have z : chkK k = true := by
    have hk' : k ∈ [0, 1, 2, 3, 4, 5, 6, 7, 8, 9, 10] := hk
    simp only [List.mem_cons, List.not_mem_nil, or_false] at hk'
    rcases hk' with rfl | rfl | rfl | rfl | rfl | rfl | rfl | rfl | rfl | rfl | rfl
    · exact chk_0
    · exact chk_1
    · exact chk_2
    · exact chk_3
    · exact chk_4
    · exact chk_5
    · exact chk_6
    · exact chk_7
    · exact chk_8
    · exact chk_9
    · exact chk_10
  exact List.all_eq_true.mp (List.all_eq_true.mp (List.all_eq_true.mp z _ hx) _ hy) _ hf
theorem turn_semi (σ : TS) : gturn (some ";") σ = gturn none σ := by
  have h : ∀ τ : TS, f6 (some ";") τ = f6 none τ := fun τ => by
    unfold f6
    rw [show (some (";" : Str)).any (fun x => inTxt ":,=)" x) = false from by kernel_rfl]
    rfl
  unfold gturn
  rw [h]
theorem runE_semi : ∀ (l : List TK) (r : RS), runE (some ";") r l = runE none r l
  | [], _ => rfl
  | t :: l, r => by
    have e : ∀ σ, gturn (nxE (some ";") l) σ = gturn (nxE none l) σ := fun σ => by
      cases l with
      | nil => exact turn_semi σ
      | cons u l => rfl
    simp only [runE, e, runE_semi l]
def pick (sv : Nat → Value) : Value → Value
  | .int i _ => sv i.toNat
  | v => v
theorem exps_pick (sv : Nat → Value) (ws : List Str) (ps : List (Int × Str)) : mO (pick sv) (exps (fun j => .int (j : Int) 0) ws ps) = exps sv ws ps := by
  unfold mO exps
  rw [List.map_map]
  rfl
theorem run_st (sv : Nat → Value) (av : Nat → Addr) {k : Nat} (hk : k ∈ List.range 11) {x y : Str} (hx : x ∈ names) (hy : y ∈ names) {fs : Option Int × Bool} (hf : fs ∈ fss) :
    runE none ⟨fs.1, fs.2, 0, headW (stWords k x y), sv 0⟩ (tkl av sv 1 (stWords k x y).tail) = (exps sv (stWords k x y) (stPairs k), ⟨(nextSt k fs).1, (nextSt k fs).2, 0, lastW (stWords k x y), sv ((stWords k x y).length - 1)⟩) := by
  have c := chk_of hk hx hy hf
  unfold chk at c
  have r := run_tkl none (pick sv) av (fun _ => 0) sv (fun j => .int j 0) (fun j => rfl) (stWords k x y).tail 1 ⟨fs.1, fs.2, 0, headW (stWords k x y), .int 0 0⟩
  have r0 : mR (pick sv) ⟨fs.1, fs.2, 0, headW (stWords k x y), .int 0 0⟩ = ⟨fs.1, fs.2, 0, headW (stWords k x y), sv 0⟩ := rfl
  rw [r0] at r
  rw [r]
  generalize runE none ⟨fs.1, fs.2, 0, headW (stWords k x y), .int 0 0⟩ (tkl (fun _ => 0) (fun j => .int j 0) 1 (stWords k x y).tail) = z at c
  obtain ⟨o, z1, z2, z3, z4, z5⟩ := z
  unfold chkZ at c
  simp only [Bool.and_eq_true, decide_eq_true_eq] at c
  obtain ⟨c0, c1, c2, c3, c4, c5⟩ := c
  have c0 := oEq_of c0
  have c5 := vEq_of c5
  subst c0 c1 c2 c3 c4 c5
  exact Prod.ext (exps_pick sv _ _) rfl
theorem st_run (sv : Nat → Value) (av : Nat → Addr) (more : List TK) (v : Value) (c : Addr) (k : Nat) (hk : k ∈ List.range 11) (x : Str) (hx : x ∈ names) (y : Str) (hy : y ∈ names) (fs : Option Int × Bool) (hf : fs ∈ fss) :
    grun fs.1 fs.2 0 (headW (stWords k x y)) (sv 0) (tkl av sv 1 (stWords k x y).tail) = exps sv (stWords k x y) (stPairs k) ∧
    grun fs.1 fs.2 0 (headW (stWords k x y)) (sv 0) (tkl av sv 1 (stWords k x y).tail ++ ⟨";", c, v⟩ :: more) = exps sv (stWords k x y) (stPairs k) ++
      grun (nextSt k fs).1 (nextSt k fs).2 0 (lastW (stWords k x y)) (sv ((stWords k x y).length - 1)) (⟨";", c, v⟩ :: more) := by
  constructor
  · have z := runE_grun [] (tkl av sv 1 (stWords k x y).tail) ⟨fs.1, fs.2, 0, headW (stWords k x y), sv 0⟩
    rw [show (([] : List TK).head?.map (·.text)) = none from rfl, run_st sv av hk hx hy hf, List.append_nil] at z
    exact z.trans (List.append_nil _)
  · have z := runE_grun (⟨";", c, v⟩ :: more) (tkl av sv 1 (stWords k x y).tail) ⟨fs.1, fs.2, 0, headW (stWords k x y), sv 0⟩
    rw [show (((⟨";", c, v⟩ : TK) :: more).head?.map (·.text)) = some (";" : Str) from rfl, runE_semi, run_st sv av hk hx hy hf] at z
    exact z
theorem f6_off {n : Option Str} {σ : TS} (h : (σ.fd.isSome && !σ.seen) = false) : f6 n σ = σ := by unfold f6; rw [h, Bool.false_and, Bool.false_and, Bool.false_and]; rfl
theorem sep_run (pp v v' : Value) (c c' : Addr) (more : List TK) : ∀ pw ∈ ([("l" : Str), "O", "I", "x", "ll", "1", ":", ")"]), ∀ fw ∈ ([("l" : Str), "O", "I", "x", "ll", "for", "\x69mport", "class", "def", "f", "global", "with"]), ∀ fs ∈ fss,
    grun fs.1 fs.2 0 pw pp (⟨";", c, v⟩ :: ⟨fw, c', v'⟩ :: more) = grun fs.1 fs.2 0 fw v' more := by
  intro pw hp fw hw fs hf
  simp only [fss, List.mem_cons, List.not_mem_nil, or_false] at hp hw hf
  rcases hp with rfl | rfl | rfl | rfl | rfl | rfl | rfl | rfl <;> rcases hw with rfl | rfl | rfl | rfl | rfl | rfl | rfl | rfl | rfl | rfl | rfl | rfl <;> rcases hf with rfl | rfl <;> kernel_rfl
end Mine

end
section
open PySem PySem.W PyProof.Rows PySem.Calls Builtin
set_option maxHeartbeats 16000000
namespace Mine
def stepW (st : List Str × List (Int × Str)) (q : Nat × Str × Str) : List Str × List (Int × Str) := (sepd st.1 ++ stWords q.1 q.2.1 q.2.2, st.2 ++ shift (sepd st.1).length (stPairs q.1))
def runSt (sts : List (Nat × Str × Str)) : List Str × List (Int × Str) := sts.foldl stepW ([], [])
def OkSt (q : Nat × Str × Str) : Prop := q.1 ≤ 10 ∧ q.2.1 ∈ names ∧ q.2.2 ∈ names
section
variable {w : World} {A A₀ : Around} {s : Shared} {h₀ base : Heap} {L : Addr} {m mg mb : Str → Option Value} {news : List (Addr × Obj)} {mean : ExcName → Option Value} {p : Program} {loose : List Str} {outer : List Env} {R : Result → Shared → Prop}

theorem runSt_len (sts : List (Nat × Str × Str)) : (runSt sts).1.length ≤ 11 * sts.length ∧ (runSt sts).2.length ≤ 3 * sts.length := by
  unfold runSt
  have key : ∀ (l : List (Nat × Str × Str)) (st : List Str × List (Int × Str)) (a : Nat), st.1.length ≤ 11 * a → st.2.length ≤ 3 * a → (l.foldl stepW st).1.length ≤ 11 * (a + l.length) ∧ (l.foldl stepW st).2.length ≤ 3 * (a + l.length) := by
    intro l
    induction l with
    | nil => intro st a h1 h2; exact ⟨h1, h2⟩
    | cons q l ih =>
      intro st a h1 h2
      have z := ih (stepW st q) (a + 1) (by
        have e1 := sepd_len st.1
        have e2 := stWords_len q.1 q.2.1 q.2.2
        simp only [stepW, List.length_append]
        omega) (by
        have e3 := stPairs_len q.1
        simp only [stepW, List.length_append, shift, List.length_map]
        omega)
      simp only [List.foldl_cons, List.length_cons]
      have e : a + 1 + l.length = a + (l.length + 1) := by omega
      rw [e] at z
      exact z
  have z := key sts ([], []) 0 (by simp) (by simp)
  simpa using z

theorem datAll_off {h' : Heap} {I : Addr} {x l : Int} {big : List (Addr × Obj)} (N9 : News h₀ L h' big) (hI : (I, riOf x l) ∈ big) :
    ∀ {us : List Value} {qs : List (Int × Str)}, DatAll big us (qs.map datPair) → DatAll (big.filter fun q => decide (@Ne Nat q.1 I)) us (qs.map datPair)
  | [], [], _ => .nil
  | [], _ :: _, h => nomatch h
  | _ :: _, [], h => nomatch h
  | u :: us, q :: qs, h => by
    cases h with
    | cons h1 r =>
      refine .cons ?_ (datAll_off N9 hI r)
      cases h1 with
      | @tuple a9 vs9 k9 ds9 hm hd =>
        refine .tuple (List.mem_filter.mpr ⟨hm, ?_⟩) ?_
        · have z := (N9 _ hm).1
          have n1 : ∀ e : a9 = I, False := fun e => by
            have z' := (N9 _ hI).1
            dsimp only at z z'
            rw [e, z'] at z
            have q := congrArg Obj.cls (Option.some.inj z)
            exact absurd (Value.type.inj q) (by decide)
          simp only [decide_eq_true_eq]
          exact n1
        · cases hd with
          | cons a b =>
            cases a
            cases b with
            | cons c d =>
              cases c
              cases d
              exact .cons (.int _ _) (.cons (.str _ _) .nil)

/-- law's frame over a step of the loop's iterator -/
theorem LF.next {h h' : Heap} {sa aa wa I : Addr} {wvs avs : List Value} {n1 n2 : Nat} {oc : Obj} {rest : List (Addr × Obj)} {ws : List Str} {ps : List (Int × Str)} {x l : Int} {o' : Obj}
    (S : LF h₀ L h m sa aa wa wvs avs n1 n2 oc rest ws ps) (hI : (I, riOf x l) ∈ rest) (hs : Heap.SameBut I h h') (ho : h'.get? I = some o') :
    LF h₀ L h' m sa aa wa wvs avs n1 n2 oc ((I, o') :: rest.filter fun q => decide (@Ne Nat q.1 I)) ws ps := by
  obtain ⟨F, N, hoc, Dw, Da, ok, hwa, hcw, hco, sm, am⟩ := S
  have NI := N _ (.tail _ (.tail _ (.tail _ hI)))
  have Nr : News h₀ L h rest := fun q hq => N q (.tail _ (.tail _ (.tail _ hq)))
  have nI : ∀ (b : Addr) (o : Obj), h.get? b = some o → o.cls ≠ .type "range_iterator" ∨ o.data ≠ (riOf x l).data → b ≠ I := fun b o e hn q => by
    dsimp only at NI
    rw [q, NI.1] at e
    have z := Option.some.inj e
    rcases hn with hn | hn
    · exact hn (by rw [← z])
    · exact hn (by rw [← z])
  have gc := (N _ (.head _)).1
  have gw := (N _ (.tail _ (.head _))).1
  have ga := (N _ (.tail _ (.tail _ (.head _)))).1
  have cI : L + 1 ≠ I := nI _ _ gc (.inr (by rw [hoc]; intro z; cases z))
  have wI : wa ≠ I := nI _ _ gw (.inl (by dsimp only; intro z; exact absurd (Value.type.inj z) (by decide)))
  have aI : aa ≠ I := nI _ _ ga (.inl (by dsimp only; intro z; exact absurd (Value.type.inj z) (by decide)))
  refine ⟨⟨F.ns.sameBut hs (Ne.symm NI.2.1), fun b o e => (hs.2 b (fun q => ?_)).trans (F.keep b o e), F.above⟩, ?_, hoc, Dw, ?_, ok, ?_, hcw, ?_, sm, am⟩
  · rw [q, NI.2.2] at e; cases e
  · intro q hq
    rcases List.mem_cons.mp hq with rfl | hq
    · have z := N _ (.head _)
      exact ⟨(hs.2 _ cI).trans z.1, z.2⟩
    rcases List.mem_cons.mp hq with rfl | hq
    · have z := N _ (.tail _ (.head _))
      exact ⟨(hs.2 _ wI).trans z.1, z.2⟩
    rcases List.mem_cons.mp hq with rfl | hq
    · have z := N _ (.tail _ (.tail _ (.head _)))
      exact ⟨(hs.2 _ aI).trans z.1, z.2⟩
    rcases List.mem_cons.mp hq with rfl | hq
    · exact ⟨ho, NI.2⟩
    · have f := List.mem_filter.mp hq
      have z := Nr _ f.1
      exact ⟨(hs.2 _ (by simpa using f.2)).trans z.1, z.2⟩
  · exact (datAll_off Nr hI Da).mono fun q hq => .tail _ hq
  · intro q hq
    rcases List.mem_cons.mp hq with rfl | hq
    · exact hwa _ (.head _)
    rcases List.mem_cons.mp hq with rfl | hq
    · exact Ne.symm wI
    · exact hwa _ (.tail _ (List.mem_filter.mp hq).1)
  · intro q hq
    rcases List.mem_cons.mp hq with rfl | hq
    · exact hco _ (.head _)
    rcases List.mem_cons.mp hq with rfl | hq
    · exact Ne.symm cI
    · exact hco _ (.tail _ (List.mem_filter.mp hq).1)
/-- law's frame over the end of the loop's iterator -/
theorem LF.drop {h h' : Heap} {sa aa wa I : Addr} {wvs avs : List Value} {n1 n2 : Nat} {oc : Obj} {rest : List (Addr × Obj)} {ws : List Str} {ps : List (Int × Str)} {x l : Int}
    (S : LF h₀ L h m sa aa wa wvs avs n1 n2 oc rest ws ps) (hI : (I, riOf x l) ∈ rest) (hs : Heap.ExtBut I h h') :
    LF h₀ L h' m sa aa wa wvs avs n1 n2 oc (rest.filter fun q => decide (@Ne Nat q.1 I)) ws ps := by
  obtain ⟨F, N, hoc, Dw, Da, ok, hwa, hcw, hco, sm, am⟩ := S
  have NI := N _ (.tail _ (.tail _ (.tail _ hI)))
  have Nr : News h₀ L h rest := fun q hq => N q (.tail _ (.tail _ (.tail _ hq)))
  have nI : ∀ (b : Addr) (o : Obj), h.get? b = some o → o.cls ≠ .type "range_iterator" ∨ o.data ≠ (riOf x l).data → b ≠ I := fun b o e hn q => by
    dsimp only at NI
    rw [q, NI.1] at e
    have z := Option.some.inj e
    rcases hn with hn | hn
    · exact hn (by rw [← z])
    · exact hn (by rw [← z])
  have gc := (N _ (.head _)).1
  have gw := (N _ (.tail _ (.head _))).1
  have ga := (N _ (.tail _ (.tail _ (.head _)))).1
  have cI : L + 1 ≠ I := nI _ _ gc (.inr (by rw [hoc]; intro z; cases z))
  have wI : wa ≠ I := nI _ _ gw (.inl (by dsimp only; intro z; exact absurd (Value.type.inj z) (by decide)))
  have aI : aa ≠ I := nI _ _ ga (.inl (by dsimp only; intro z; exact absurd (Value.type.inj z) (by decide)))
  refine ⟨⟨F.ns.extBut hs (Ne.symm NI.2.1), fun b o e => hs b o (fun q => ?_) (F.keep b o e), F.above⟩, ?_, hoc, Dw, ?_, ok, ?_, hcw, ?_, sm, am⟩
  · rw [q, NI.2.2] at e; cases e
  · intro q hq
    rcases List.mem_cons.mp hq with rfl | hq
    · have z := N _ (.head _)
      exact ⟨hs _ _ cI z.1, z.2⟩
    rcases List.mem_cons.mp hq with rfl | hq
    · have z := N _ (.tail _ (.head _))
      exact ⟨hs _ _ wI z.1, z.2⟩
    rcases List.mem_cons.mp hq with rfl | hq
    · have z := N _ (.tail _ (.tail _ (.head _)))
      exact ⟨hs _ _ aI z.1, z.2⟩
    · have f := List.mem_filter.mp hq
      have z := Nr _ f.1
      exact ⟨hs _ _ (by simpa using f.2) z.1, z.2⟩
  · exact datAll_off Nr hI Da
  · intro q hq
    rcases List.mem_cons.mp hq with rfl | hq
    · exact hwa _ (.head _)
    · exact hwa _ (.tail _ (List.mem_filter.mp hq).1)
  · intro q hq
    rcases List.mem_cons.mp hq with rfl | hq
    · exact hco _ (.head _)
    · exact hco _ (.tail _ (List.mem_filter.mp hq).1)
end
end Mine

end
section
open PySem PySem.W PyProof.Rows PySem.Calls Builtin
set_option maxHeartbeats 16000000
namespace Mine
section
variable {w : World} {A A₀ : Around} {s : Shared} {h₀ base : Heap} {L : Addr} {m mg mb : Str → Option Value} {news : List (Addr × Obj)} {mean : ExcName → Option Value} {p : Program} {loose : List Str} {outer : List Env} {R : Result → Shared → Prop}
local macro_rules | `(tactic| walk_at "eval Call") => `(tactic| (k_here; k_dflt (refine Call_ ?_)))
local macro_rules | `(tactic| walk_at "call ref") => `(tactic| (k_here; k_dflt ((rename Fr _ _ _ _ => kF); (rename News _ _ _ _ => kN); (rename Below _ _ _ _ => kB); (rename Frag.In _ _ => kX); (rename Top _ _ _ _ _ _ => kT); (rename Around.frames _ = some _ => kA); (rename Scr _ _ _ => kS); (refine' wpAny_call (cell_callS kB kF kX kN kT kA rfl rfl kS ?k1 ?k2 ?k3 ?_)); (case k1 => omega); (case k2 => omega); (case k3 => omega); intro v' h' t' t'' hv' F' N'; (try dsimp only))))

theorem l_iter {cd : Value × Addr} {sa : Addr} {ks : List Int} {E : Value → Shared → Prop} {Q : Value → Shared → Prop}
    (X : (KF w.params).In h₀) (T : Top p loose mean mg mb h₀) (hS : Scr h₀ sa ks) (F : Fr h₀ L s.heap m) (N : News h₀ L s.heap news) (sm : m "script" = some (.ref sa))
    (H : ∀ h' tk I (n : Nat), 1 ≤ n → n ≤ 4 → Fr h₀ L h' m → News h₀ L h' ((I, riOf 0 n) :: news) → (∀ q ∈ news, q.1 < I) → Q (.ref I) { s with heap := h', toks := tk }) :
    wpAny (model (RowW.prog (OpenRow.toRowW (OpenLaw.row PySem.Challenge.rw_bd0046_01))) w) (callerA.deeper (lEnv L cd)) (eval (forIter (lb 1)) (lEnv L cd)) (fun x s₁ => wpAny (model (RowW.prog (OpenRow.toRowW (OpenLaw.row PySem.Challenge.rw_bd0046_01))) w) (callerA.deeper (lEnv L cd)) (pyIter x) Q E s₁) E s := by
  have B := below_caller h₀
  have hA : (callerA.deeper (lEnv L cd)).frames = some (lEnv L cd :: []) := Around.frames_deeper B.stack
  have hroom : (callerA.deeper (lEnv L cd)).depth + 20 < recursionLimit := lt_room (by decide +kernel)
  conv => 
    arg 3
    arg 1
    whnf
  revert X; k_fill; intro X
  unfold lEnv at *
  rw [map_or (l := [("script", .ref sa)]) (m := m) (List.forall_mem_cons.mpr ⟨sm, List.forall_mem_nil _⟩)] at F
  k_steps
  (rename Fr _ _ _ _ => F9); (rename News _ _ _ _ => N9); (rename IsRange _ _ _ _ _ _ _ _ => R9)
  rw [← map_or (l := [("script", .ref sa)]) (m := m) (List.forall_mem_cons.mpr ⟨sm, List.forall_mem_nil _⟩)] at F9
  rename Int => v9
  have e1 : 0 ≤ v9.fmod 4 := fmod_lo _ (by decide)
  have e2 : v9.fmod 4 < 4 := fmod_hi _ (by decide)
  refine wpAny_pyIter_range R9 (small_one (by omega) (by omega) (by omega) (by omega)) ?_
  have e : Builtin.Range.rangeSize 0 (1 + v9.fmod 4) 1 = ((1 + v9.fmod 4).toNat : Int) := by
    unfold Builtin.Range.rangeSize
    rw [if_pos (by decide)]
    split <;> omega
  rw [e]
  exact H _ _ _ _ (by omega) (by omega) (F9.push _) (N9.push F9 _) (fun q hq => Heap.lt_size (N9 q hq).1)

theorem lb1_eq : ∃ px q, lb 1 = .For (.Name "at" px) (forIter (lb 1)) [tb 0, tb 1, tb 2, tb 3, tb 4, tb 5] [] q := ⟨_, _, rfl⟩

/-- the loop's state after i turns -/
inductive LJ (h₀ : Heap) (L sa I : Addr) (n : Nat) (s : Shared) (k : Nat) : Shared → Prop
  | mk {i : Nat} {h' : Heap} {tk : Nat} {m' : Str → Option Value} {sts : List (Nat × Str × Str)} {aa' wa' : Addr} {oc' : Obj} {wvs' avs' : List Value} {n1' n2' : Nat} {rest' : List (Addr × Obj)} (hi : i ≤ n) (hk : k = n + 1 - i) (hl : sts.length = i) (ok : ∀ q ∈ sts, OkSt q)
      (hI : (I, riOf (i : Int) ((n : Int) - i)) ∈ rest') (S : LF h₀ L h' m' sa aa' wa' wvs' avs' n1' n2' oc' rest' (runSt sts).1 (runSt sts).2) : LJ h₀ L sa I n s k { s with heap := h', toks := tk }
theorem ri_step (i n : Nat) : ((((i + 1 : Nat) : Int)) = (i : Int) + 1) ∧ ((n : Int) - ((i + 1 : Nat) : Int) = (n : Int) - i - 1) := ⟨by push_cast; rfl, by push_cast; omega⟩
theorem LF.more {h₀ : Heap} {L : Addr} {h h1 : Heap} {m : Str → Option Value} {sa aa wa I : Addr} {wvs avs : List Value} {n1 n2 : Nat} {oc o : Obj} {rest : List (Addr × Obj)} {ws : List Str} {ps : List (Int × Str)} (S : LF h₀ L h m sa aa wa wvs avs n1 n2 oc rest ws ps)
    (F1 : Fr h₀ L h1 m) (N1 : News h₀ L h1 ((I, o) :: (L + 1, oc) :: (wa, listOf wvs.toArray n1) :: (aa, listOf avs.toArray n2) :: rest)) (l1 : ∀ q ∈ (L + 1, oc) :: (wa, listOf wvs.toArray n1) :: (aa, listOf avs.toArray n2) :: rest, q.1 < I) :
    LF h₀ L h1 m sa aa wa wvs avs n1 n2 oc ((I, o) :: rest) ws ps := by
  obtain ⟨F, N, hoc, Dw, Da, ok, hwa, hcw, hco, sm, am⟩ := S
  refine ⟨F1, fun q hq => N1 q ?_, hoc, Dw, Da.mono (fun q hq => .tail _ hq), ok, ?_, hcw, ?_, sm, am⟩
  · simp only [List.mem_cons] at hq ⊢
    rcases hq with h | h | h | h | h
    · exact .inr (.inl h)
    · exact .inr (.inr (.inl h))
    · exact .inr (.inr (.inr (.inl h)))
    · exact .inl h
    · exact .inr (.inr (.inr (.inr h)))
  · intro q hq
    rcases List.mem_cons.mp hq with rfl | hq
    · exact hwa _ (.head _)
    rcases List.mem_cons.mp hq with rfl | hq
    · exact Ne.symm (Nat.ne_of_lt (l1 (wa, listOf wvs.toArray n1) (.tail _ (.head _))))
    · exact hwa _ (.tail _ hq)
  · intro q hq
    rcases List.mem_cons.mp hq with rfl | hq
    · exact hco _ (.head _)
    rcases List.mem_cons.mp hq with rfl | hq
    · exact Ne.symm (Nat.ne_of_lt (l1 (L + 1, oc) (.head _)))
    · exact hco _ (.tail _ hq)
theorem LF.move {h₀ : Heap} {L : Addr} {h h1 : Heap} {m m1 : Str → Option Value} {sa aa wa : Addr} {wvs avs : List Value} {n1 n2 : Nat} {oc : Obj} {rest : List (Addr × Obj)} {ws : List Str} {ps : List (Int × Str)} (S : LF h₀ L h m sa aa wa wvs avs n1 n2 oc rest ws ps)
    (F1 : Fr h₀ L h1 m1) (N1 : News h₀ L h1 ((L + 1, oc) :: (wa, listOf wvs.toArray n1) :: (aa, listOf avs.toArray n2) :: rest)) (e1 : m1 "script" = m "script") (e2 : m1 "asked" = m "asked") : LF h₀ L h1 m1 sa aa wa wvs avs n1 n2 oc rest ws ps :=
  ⟨F1, N1, S.hoc, S.Dw, S.Da, S.hok, S.hwa, S.hcw, S.hco, e1.trans S.sm, e2.trans S.am⟩
theorem law_for {cd : Value × Addr} {sa wa aa : Addr} {oc : Obj} {wvs avs : List Value} {ks : List Int} {rest : List (Addr × Obj)} {n1 n2 : Nat} {Q : Flow → Shared → Prop}
    (X : (KF w.params).In h₀) (T : Top p loose mean mg mb h₀) (hS : Scr h₀ sa ks)
    (S : LF h₀ L s.heap m sa aa wa wvs avs n1 n2 oc rest [] [])
    (H : ∀ h' tk m' sts aa' wa' oc' wvs' avs' n1' n2' rest', 1 ≤ sts.length → sts.length ≤ 4 → (∀ q ∈ sts, OkSt q) → LF h₀ L h' m' sa aa' wa' wvs' avs' n1' n2' oc' rest' (runSt sts).1 (runSt sts).2 →
      Q .next { s with heap := h', toks := tk }) :
    wpAny (model (RowW.prog (OpenRow.toRowW (OpenLaw.row PySem.Challenge.rw_bd0046_01))) w) (callerA.deeper (lEnv L cd)) (exec (lb 1) (lEnv L cd)) Q (fun _ _ => False) s := by
  obtain ⟨px, q, e⟩ := lb1_eq
  rw [e]
  refine wpAny_For ?_
  refine l_iter X T hS S.F S.N S.sm ?_
  clear e
  intro h1 tk1 I n hn1 hn4 F1 N1 l1
  refine codeAny_forLoop (LJ h₀ L sa I n s) ?_ (n + 1) (LJ.mk (sts := []) (i := 0) (Nat.zero_le _) rfl rfl (fun _ h => nomatch h) (by simp) (S.more F1 N1 l1))
  rintro k _ ⟨hi, rfl, hl, hok, hI, S'⟩
  rename_i i h' tk m' sts aa' wa' oc' wvs' avs' n1' n2' rest'
  have NI := S'.N _ (.tail _ (.tail _ (.tail _ hI)))
  have rl := runSt_len sts
  by_cases hlt : i < n
  · have c1 : (0 : Int) < (n : Int) - i := by omega
    have c2 : (i : Int) < 4 := by omega
    have c3 : (runSt sts).1.length ≤ 150 ∧ (runSt sts).2.length ≤ 150 := by omega
    refine wpAny_pyNext_range_item NI.1 c1 fun h2 hit hsb => ?_
    have S2 := S'.next hI hsb hit
    refine wpAny_assign_Name (storeX_L (cn := "law") (cs := lScope) (L := L) (a := cd.2) (ccd := cd.1) (cl := cellsFrom (L + 1) lScope.names []) S2.F S2.N (fun h3 F3 N3 => ?_) rfl rfl)
    refine wpAny_mono (turnL (Q := fun f s₃ => f = .next ∧ LJ h₀ L sa I n s (n + 1 - (i + 1)) s₃) (i := (i : Int)) (ws := (runSt sts).1) (ps := (runSt sts).2) X T hS (Int.natCast_nonneg i) c2 c3.1 c3.2 (S2.move F3 N3 rfl rfl) (if_pos rfl) ?_) (fun f s4 h4 => by obtain ⟨rfl, h4⟩ := h4; exact ⟨n + 1 - (i + 1), by omega, h4⟩) fun _ _ z => z.elim
    intro h4 tk4 m4 k4 x4 y4 aa4 wa4 oc4 wvs4 avs4 n14 n24 rest4 hk4 hx4 hy4 S4 hsub
    have e3 : runSt (sts ++ [(k4, x4, y4)]) = stepW (runSt sts) (k4, x4, y4) := by unfold runSt; rw [List.foldl_append]; rfl
    have z := hsub _ (.head _)
    rw [← (ri_step i n).1, ← (ri_step i n).2] at z
    refine ⟨rfl, LJ.mk (sts := sts ++ [(k4, x4, y4)]) (i := i + 1) hlt rfl (by rw [List.length_append, hl]; rfl) ?_ z (by rw [e3]; exact S4)⟩
    intro q hq
    rcases List.mem_append.mp hq with hq | hq
    · exact hok q hq
    · cases List.mem_singleton.mp hq; exact ⟨hk4, hx4, hy4⟩
  · have hin : i = n := by omega
    subst hin
    refine wpAny_pyNext_range_end rfl NI.1 (by omega) fun h2 he => wpAny_execs_nil ?_
    exact H h2 tk m' sts _ _ _ _ _ _ _ _ (by omega) (by omega) hok (S'.drop hI he)
end
end Mine

end
section
open PySem PySem.W PyProof.Rows PySem.Calls Builtin
set_option maxHeartbeats 16000000
namespace Mine
/-! _law_tokens: pieces -/
def kBody : List Stmt := defBody (topSt 10)
def kScope : Scope := defScope (topSt 10)
def kb (n : Nat) : Stmt := kBody.getD n default
def kEnv (L : Addr) : Env := envOf "_law_tokens" kScope L 193 (.ref 192)
def k1 (n : Nat) : Stmt := (forBody (kb 1)).getD n default
def k2 (n : Nat) : Stmt := (forBody (kb 3)).getD n default
section
variable {w : World} {A A₀ : Around} {s : Shared} {h₀ base : Heap} {L : Addr} {m mg mb : Str → Option Value} {news : List (Addr × Obj)} {mean : ExcName → Option Value} {p : Program} {loose : List Str} {outer : List Env} {R : Result → Shared → Prop}
local macro_rules | `(tactic| walk_at "call builtin:list.append") => `(tactic| (k_here; k_dflt ((rename Fr _ _ _ _ => kF); (rename News _ _ _ _ => kN); (refine' append_K kF kN (.tail ?a (.head ?b)) ?_ ?z); (case a => (dsimp only; refine neN ?_; omega)); (case b => assumption); (case z => (rw [List.size_toArray]; refine Nat.le_trans ?_ (by decide : 1000 ≤ sizeLine); omega)); intro h' F' N')))
theorem news_swap {h : Heap} {a b : Addr × Obj} {rest : List (Addr × Obj)} (N : News h₀ L h (a :: b :: rest)) : News h₀ L h (b :: a :: rest) := fun q hq => by
  rcases List.mem_cons.mp hq with rfl | hq
  · exact N _ (.tail _ (.head _))
  rcases List.mem_cons.mp hq with rfl | hq
  · exact N _ (.head _)
  · exact N _ (.tail _ (.tail _ hq))
/-- a turn of the first loop, behind the unpacking: word and gap are set -/
theorem k1_turn {wx line : Str} {rv wv : Value} {g : Int} {t1 t2 t3 : Tok} {sp : Addr} {svs : List Value} {n1 : Nat} {rest : List (Addr × Obj)} {Q : Flow → Shared → Prop}
    (X : (KF w.params).In h₀) (T : Top p loose mean mg mb h₀) (F : Fr h₀ L s.heap m) (hm : ∀ q ∈ ([("word", .str wx t1), ("gap", .int g t2), ("line", .str line t3), ("spots", .ref sp), ("row", rv), ("words", wv)] : List (Str × Value)), m q.1 = some q.2) (hg0 : 0 ≤ g) (hg1 : g ≤ 1)
    (N : News h₀ L s.heap ((sp, listOf svs.toArray n1) :: rest)) (hoff : ∀ q ∈ rest, q.1 ≠ sp) (hl : line.length ≤ 2000) (hwl : wx.length ≤ 20) (hsl : svs.length ≤ 100)
    (H : ∀ h' tk m' t4 u D', Fr h₀ L h' m' → (∀ q ∈ ([("line", .str (line ++ Txt.mul " " g ++ wx) t4), ("spots", .ref sp), ("row", rv), ("words", wv)] : List (Str × Value)), m' q.1 = some q.2) →
      News h₀ L h' ((sp, listOf (svs ++ [Value.ref D']).toArray (n1 + 1)) :: (D', { cls := .type "tuple", data := .seq #[.str wx t1, .int ((line ++ Txt.mul " " g).length : Int) u] }) :: rest) → @Ne Nat D' sp → (∀ q ∈ rest, q.1 < D') → Q .next { s with heap := h', toks := tk }) :
    wpAny (model (RowW.prog (OpenRow.toRowW (OpenLaw.row PySem.Challenge.rw_bd0046_01))) w) A (exec (k1 0) (kEnv L)) (fun f s₁ => f = .next ∧ wpAny (model (RowW.prog (OpenRow.toRowW (OpenLaw.row PySem.Challenge.rw_bd0046_01))) w) A (exec (k1 1) (kEnv L)) (fun f s₁ => f = .next ∧ wpAny (model (RowW.prog (OpenRow.toRowW (OpenLaw.row PySem.Challenge.rw_bd0046_01))) w) A (exec (k1 2) (kEnv L)) Q (fun _ _ => False) s₁) (fun _ _ => False) s₁) (fun _ _ => False) s := by
  conv => 
    arg 3
    arg 1
    whnf
  revert X; k_fill; intro X
  unfold kEnv at *
  rw [map_or hm] at F
  clear hm
  k_steps
  all_goals (try exact trivial)
  conv => 
    arg 3
    arg 1
    whnf
  k_steps
  all_goals (try exact trivial)
  conv => 
    arg 3
    arg 1
    whnf
  k_steps
  (rename Fr _ _ _ _ => F9); (rename News _ _ _ _ => N9); (rename _ ∧ AllLt _ _ => l9)
  rw [List.push_toArray] at N9
  refine' H _ _ _ _ _ _ F9 ?ms (news_swap N9) (Ne.symm (Nat.ne_of_lt l9.1)) (ktn_ltOf l9.2)
  case ms => repeat (first | exact List.forall_mem_nil _ | refine' List.forall_mem_cons.mpr ⟨rfl, ?_⟩)
end
end Mine

end
section
open PySem PySem.W PyProof.Rows PySem.Calls Builtin
set_option maxHeartbeats 16000000
namespace Mine
def vocab : List Str := ["l", "O", "I", "x", "ll", "=", "1", "for", "in", "\x69mport", "as", "class", ":", "def", "(", ",", ")", "lambda", "f", ":=", "global", "==", "with", ";"]
theorem vocab_lens : ∀ x ∈ vocab, 1 ≤ x.length ∧ x.length ≤ 20 := by decide +kernel
section
variable {w : World} {A A₀ : Around} {s : Shared} {h₀ base : Heap} {L : Addr} {m mg mb : Str → Option Value} {news : List (Addr × Obj)} {mean : ExcName → Option Value} {p : Program} {loose : List Str} {env : Env} {outer : List Env} {R : Result → Shared → Prop}
theorem kind_call {t : Tok} {x : Str} (hx : x ∈ vocab) (B : Below A₀ base outer h₀) (F : Fr h₀ L s.heap m) (X : (KF w.params).In h₀) (N : News h₀ L s.heap news) (T : Top p loose mean mg mb h₀) (hA : A.frames = some (env :: outer)) (hf : env.frame = some L) (hke : env.scope.kind = .function)
    (hroom : A.depth + 10 < recursionLimit)
    (h : ∀ v h' tk', Fr h₀ L h' m → News h₀ L h' news → R (.ok (.ret v)) { s with heap := h', toks := tk' }) :
    codeAny (model (RowW.prog (OpenRow.toRowW (OpenLaw.row PySem.Challenge.rw_bd0046_01))) w) A (.call (.ref 186) ⟨[.str x t], []⟩) R s := by
  revert X; k_fill; intro X
  refine' code_def B F X N T hA hf hke ?k6 ?k7 (by omega) ?k9 ?kB ?_ ?c2 ?c3 ?c4 ?c5
  case k6 => k_is
  case k7 => k_is
  case k9 => exact BindsTo.of_eq rfl
  case c5 => decide
  case kB => exact locs rfl
  case c2 => exact rfl
  case c3 => exact rfl
  case c4 => exact rfl
  intro g' L' h' FG' F' N' B' X' T'
  (try dsimp only)
  k_fold
  conv => 
    arg 3
    arg 1
    whnf
  obtain ⟨hl1, hl2⟩ := vocab_lens x hx
  clear hx
  k_steps
  all_goals ((rename Fr h₀ L _ m => kF); (rename News h₀ L _ _ => kN); exact h _ _ _ kF kN)
end
end Mine

end
section
open PySem PySem.W PyProof.Rows PySem.Calls Builtin
set_option maxHeartbeats 16000000
namespace Mine
section
variable {w : World} {A A₀ : Around} {s : Shared} {h₀ base : Heap} {L : Addr} {m mg mb : Str → Option Value} {news : List (Addr × Obj)} {mean : ExcName → Option Value} {p : Program} {loose : List Str} {env : Env} {outer : List Env} {R : Result → Shared → Prop}
local macro_rules | `(tactic| walk_at "eval Call") => `(tactic| (k_here; k_dflt (refine Call_ ?_)))
local macro_rules | `(tactic| walk_at "call ref") => `(tactic| (k_here; k_dflt ((rename Fr _ _ _ _ => kF); (rename News _ _ _ _ => kN); (rename Below _ _ _ _ => kB); (rename Frag.In _ _ => kX); (rename Top _ _ _ _ _ _ => kT); (rename Around.frames _ = some _ => kA); first
  | ((refine' wpAny_call (token_call kB kF kX kN kT kA rfl rfl ?k1 ?_)); (case k1 => omega); intro a' d' h' F' N' l1' tk'; (try dsimp only))
  | ((rename _ ∈ vocab => kV); (refine' wpAny_call (kind_call kV kB kF kX kN kT kA rfl rfl ?k1 ?_)); (case k1 => omega); intro v' h' tk' F' N'; (try dsimp only)))))
theorem news_pick {h : Heap} {a b c d : Addr × Obj} {rest : List (Addr × Obj)} (N : News h₀ L h (a :: b :: c :: d :: rest)) : News h₀ L h (d :: a :: c :: rest) := fun q hq => by
  simp only [List.mem_cons] at hq
  rcases hq with rfl | rfl | rfl | hq
  · exact N _ (.tail _ (.tail _ (.tail _ (.head _))))
  · exact N _ (.head _)
  · exact N _ (.tail _ (.tail _ (.head _)))
  · exact N _ (.tail _ (.tail _ (.tail _ (.tail _ hq))))
/-- a turn of the second loop, behind the unpacking -/
theorem k2_turn {wx line : Str} {sp rw_ : Int} {t1 t2 t3 t4 : Tok} {fo : Addr} {fvs : List Value} {n1 : Nat} {rest : List (Addr × Obj)} {Q : Flow → Shared → Prop}
    (B : Below A₀ base outer h₀) (hA : A.frames = some (kEnv L :: outer)) (hroom : A.depth + 20 < recursionLimit) (hx : wx ∈ vocab)
    (X : (KF w.params).In h₀) (T : Top p loose mean mg mb h₀) (F : Fr h₀ L s.heap m) (hm : ∀ q ∈ ([("word", .str wx t1), ("spot", .int sp t2), ("line", .str line t3), ("found", .ref fo), ("row", .int rw_ t4)] : List (Str × Value)), m q.1 = some q.2) (hg0 : 0 ≤ sp) (hg1 : sp ≤ 2000)
    (N : News h₀ L s.heap ((fo, listOf fvs.toArray n1) :: rest)) (hoff : ∀ q ∈ rest, q.1 ≠ fo) (hl : line.length ≤ 2000) (hwl : wx.length ≤ 20) (hsl : fvs.length ≤ 100)
    (H : ∀ h' tk m' a d v st en t5 t6 t7, Fr h₀ L h' m' → (∀ q ∈ ([("line", .str line t3), ("found", .ref fo), ("row", .int rw_ t4)] : List (Str × Value)), m' q.1 = some q.2) →
      News h₀ L h' ((fo, listOf (fvs ++ [Value.ref a]).toArray (n1 + 1)) :: (a, tokObj d [v, .str wx t1, .ref st, en, .str (line ++ "\n") t5]) :: (st, { cls := .type "tuple", data := .seq #[.int rw_ t6, .int sp t7] }) :: rest) → @Ne Nat a fo → @Ne Nat st fo → (∀ q ∈ rest, q.1 < a) → (∀ q ∈ rest, q.1 < st) → Q .next { s with heap := h', toks := tk }) :
    wpAny (model (RowW.prog (OpenRow.toRowW (OpenLaw.row PySem.Challenge.rw_bd0046_01))) w) A (exec (k2 0) (kEnv L)) Q (fun _ _ => False) s := by
  conv => 
    arg 3
    arg 1
    whnf
  revert X; k_fill; intro X
  unfold kEnv at *
  rw [map_or hm] at F
  clear hm
  k_steps
  (rename Fr _ _ _ _ => F9); (rename News _ _ _ _ => N9); (rename ∀ p : Addr × Obj, p ∈ _ → p.1 < _ => l9)
  have la := l9 _ (.tail _ (.tail _ (.head _)))
  have lD : @LT.lt Nat _ fo _ := (by (rename _ ∧ _ ∧ AllLt _ _ => l8); exact l8.2.1)
  (rename fo < _ ∧ AllLt _ _ => l7)
  refine' append_K F9 N9 (.tail ?a (.tail ?a2 (.tail ?a3 (.head ?b)))) ?_ ?z
  case a => exact Ne.symm (Nat.ne_of_lt la)
  case a2 => exact Ne.symm (Nat.ne_of_lt lD)
  case a3 => exact Ne.symm (Nat.ne_of_lt l7.1)
  case b => assumption
  case z => (rw [List.size_toArray]; exact Nat.le_trans hsl (by decide))
  intro h8 F8 N8
  rw [List.push_toArray] at N8
  refine' H _ _ _ _ _ _ _ _ _ _ _ F8 ?ms (news_pick N8) (Ne.symm (Nat.ne_of_lt la)) (Ne.symm (Nat.ne_of_lt l7.1)) (fun q hq => l9 q (.tail _ (.tail _ (.tail _ hq)))) (ktn_ltOf l7.2)
  repeat (first | exact List.forall_mem_nil _ | refine' List.forall_mem_cons.mpr ⟨rfl, ?_⟩)
end
end Mine

end
section
open PySem PySem.W PyProof.Rows PySem.Calls Builtin
set_option maxHeartbeats 16000000
namespace Mine
def datSpot (q : Str × Int) : Dat := .tuple [.str q.1, .int q.2]
def layStep (st : Str × List (Str × Int)) (q : Str × Int) : Str × List (Str × Int) := (st.1 ++ Txt.mul " " q.2 ++ q.1, st.2 ++ [(q.1, ((st.1 ++ Txt.mul " " q.2).length : Int))])
def lay (wgs : List (Str × Int)) : Str × List (Str × Int) := wgs.foldl layStep ("", [])
theorem mul_len {g : Int} (h0 : 0 ≤ g) (h1 : g ≤ 1) : (Txt.mul " " g).length ≤ 1 := by
  have : g = 0 ∨ g = 1 := by omega
  rcases this with rfl | rfl <;> decide
theorem lay_len (wgs : List (Str × Int)) (hb : ∀ q ∈ wgs, q.1.length ≤ 20 ∧ 0 ≤ q.2 ∧ q.2 ≤ 1) :
    (lay wgs).1.length ≤ 21 * wgs.length ∧ (lay wgs).2.length = wgs.length ∧ (lay wgs).2.map (·.1) = wgs.map (·.1) ∧ (∀ q ∈ (lay wgs).2, 0 ≤ q.2 ∧ q.2 ≤ (21 * wgs.length : Nat)) := by
  have key : ∀ (l : List (Str × Int)) (st : Str × List (Str × Int)) (a : Nat) (xs : List Str), (∀ q ∈ l, q.1.length ≤ 20 ∧ 0 ≤ q.2 ∧ q.2 ≤ 1) → st.1.length ≤ 21 * a → st.2.length = a → st.2.map (·.1) = xs → (∀ q ∈ st.2, 0 ≤ q.2 ∧ q.2 ≤ (21 * a : Nat)) →
      (l.foldl layStep st).1.length ≤ 21 * (a + l.length) ∧ (l.foldl layStep st).2.length = a + l.length ∧ (l.foldl layStep st).2.map (·.1) = xs ++ l.map (·.1) ∧ (∀ q ∈ (l.foldl layStep st).2, 0 ≤ q.2 ∧ q.2 ≤ (21 * (a + l.length) : Nat)) := by
    intro l
    induction l with
    | nil => intro st a xs _ h1 h2 h3 h4; simp only [List.foldl_nil, List.length_nil, Nat.add_zero, List.map_nil, List.append_nil]; exact ⟨h1, h2, h3, h4⟩
    | cons q l ih =>
      intro st a xs hb h1 h2 h3 h4
      obtain ⟨b1, b2, b3⟩ := hb q (.head _)
      have hl := mul_len b2 b3
      have z := ih (layStep st q) (a + 1) (xs ++ [q.1]) (fun q hq => hb q (.tail _ hq)) (by simp only [layStep, PySem.Str.length_append]; omega) (by simp only [layStep, List.length_append, List.length_singleton]; omega) (by simp only [layStep, List.map_append, h3]; rfl)
        (by
          intro r hr
          rcases List.mem_append.mp hr with hr | hr
          · have := h4 r hr; omega
          · cases List.mem_singleton.mp hr
            simp only [PySem.Str.length_append]
            omega)
      simp only [List.foldl_cons, List.length_cons, List.map_cons]
      have e : a + 1 + l.length = a + (l.length + 1) := by omega
      rw [e] at z
      simpa using z
  have z := key wgs ("", []) 0 [] hb (by simp; rfl) rfl rfl (fun q hq => nomatch hq)
  simpa [lay] using z
theorem lay_snoc (wgs : List (Str × Int)) (q : Str × Int) : lay (wgs ++ [q]) = layStep (lay wgs) q := by unfold lay; rw [List.foldl_append]; rfl

theorem fp_ne {a I wa ga : Nat} (h : a < I) (h1 : wa ≠ a) (h2 : ga ≠ a) : ∀ b ∈ [I + 4, I + 2, I + 3, I, I + 1, wa, ga], b ≠ a := by
  intro b hb
  simp only [List.mem_cons, List.not_mem_nil, or_false] at hb
  rcases hb with rfl | rfl | rfl | rfl | rfl | rfl | rfl
  iterate 5 omega
  · exact h1
  · exact h2
theorem wr_off {a I : Nat} (h : a < I) : a ∉ [I + 4, I + 3, I, I + 1] := by
  intro hb
  simp only [List.mem_cons, List.not_mem_nil, or_false] at hb
  omega
theorem wr_new {h₀ : Heap} {I : Nat} (h : h₀.objs.size ≤ I) : ∀ b ∈ [I + 4, I + 3, I, I + 1], h₀.get? b = none := by
  have hh0 : ∀ b : Nat, I ≤ b → h₀.get? b = none := fun b hb => by
    cases e : h₀.get? b with
    | none => rfl
    | some o => exact absurd (Heap.lt_size e) (Nat.not_lt.mpr (Nat.le_trans h hb))
  intro b hb
  simp only [List.mem_cons, List.not_mem_nil, or_false] at hb
  rcases hb with rfl | rfl | rfl | rfl
  · exact hh0 _ (Nat.le_add_right _ _)
  · exact hh0 _ (Nat.le_add_right _ _)
  · exact hh0 _ (Nat.le_refl _)
  · exact hh0 _ (Nat.le_add_right _ _)
theorem datIn_str {N : List (Addr × Obj)} {v : Value} {x : Str} (h : DatIn N v (.str x)) : ∃ t, v = .str x t := by cases h; exact ⟨_, rfl⟩
theorem datIn_int {N : List (Addr × Obj)} {v : Value} {x : Int} (h : DatIn N v (.int x)) : ∃ t, v = .int x t := by cases h; exact ⟨_, rfl⟩
theorem datAll_cons {N : List (Addr × Obj)} {vs : List Value} {d : Dat} {ds : List Dat} (h : DatAll N vs (d :: ds)) : ∃ v us, vs = v :: us ∧ DatIn N v d ∧ DatAll N us ds := by
  cases h with | cons a b => exact ⟨_, _, rfl, a, b⟩
theorem datAll_nil {N : List (Addr × Obj)} {vs : List Value} (h : DatAll N vs []) : vs = [] := by cases h; rfl
theorem datIn_tup {N : List (Addr × Obj)} {v : Value} {ds : List Dat} (h : DatIn N v (.tuple ds)) : ∃ a us k, v = .ref a ∧ (a, ({ cls := .type "tuple", data := .seq us.toArray k } : Obj)) ∈ N ∧ DatAll N us ds := by
  cases h with | tuple a b => exact ⟨_, _, _, rfl, a, b⟩
theorem datIn_tup2 {N : List (Addr × Obj)} {v : Value} {d e : Dat} (h : DatIn N v (.tuple [d, e])) : ∃ a v0 v1 k, v = .ref a ∧ (a, ({ cls := .type "tuple", data := .seq #[v0, v1] k } : Obj)) ∈ N ∧ DatIn N v0 d ∧ DatIn N v1 e := by
  obtain ⟨a, us, k, rfl, hm, hd⟩ := datIn_tup h
  obtain ⟨v0, us, rfl, h0, hd⟩ := datAll_cons hd
  obtain ⟨v1, us, rfl, h1, hd⟩ := datAll_cons hd
  obtain rfl := datAll_nil hd
  exact ⟨a, v0, v1, k, rfl, hm, h0, h1⟩
theorem datAll_at {α : Type} {N : List (Addr × Obj)} {f : α → Dat} : ∀ {vs : List Value} {xs : List α} {i : Nat} {v : Value}, DatAll N vs (xs.map f) → vs[i]? = some v → ∃ x, xs[i]? = some x ∧ DatIn N v (f x)
  | [], _, _, _, _, h => by simp at h
  | _ :: _, [], _, _, D, _ => nomatch D
  | _ :: _, x :: _, 0, _, D, h => by
    obtain ⟨v', us, e, h0, -⟩ := datAll_cons D
    cases e
    cases h
    exact ⟨x, rfl, h0⟩
  | _ :: us', x :: xs, i + 1, _, D, h => by
    obtain ⟨v', us, e, -, hd⟩ := datAll_cons D
    cases e
    exact datAll_at (xs := xs) (i := i) hd h
theorem dat_str_at {vs : List Value} {xs : List Str} {i : Nat} {v : Value} (D : DatAll [] vs (xs.map Dat.str)) (h : vs.toArray[i]? = some v) : ∃ x t, xs[i]? = some x ∧ v = .str x t :=
  let ⟨x, e, d⟩ := datAll_at D (List.getElem?_toArray ▸ h)
  let ⟨t, e2⟩ := datIn_str d
  ⟨x, t, e, e2⟩
theorem dat_int_at {vs : List Value} {xs : List Int} {i : Nat} {v : Value} (D : DatAll [] vs (xs.map Dat.int)) (h : vs.toArray[i]? = some v) : ∃ x t, xs[i]? = some x ∧ v = .int x t :=
  let ⟨x, e, d⟩ := datAll_at D (List.getElem?_toArray ▸ h)
  let ⟨t, e2⟩ := datIn_int d
  ⟨x, t, e, e2⟩
theorem lay_take {ws : List Str} {gs : List Int} {i : Nat} {x : Str} {g : Int} (hx : ws[i]? = some x) (hg : gs[i]? = some g) : lay ((ws.zip gs).take (i + 1)) = layStep (lay ((ws.zip gs).take i)) (x, g) := by
  have e : (ws.zip gs)[i]? = some (x, g) := List.getElem?_zip_eq_some.mpr ⟨hx, hg⟩
  rw [List.take_add_one, e]
  exact lay_snoc _ _
theorem set2 {m : Str → Option Value} {a b : Str} {v w : Value} {l : List (Str × Value)} (hab : a ≠ b) (hl : (l.all fun q => decide (q.1 ≠ a) && decide (q.1 ≠ b)) = true) (hm : ∀ q ∈ l, m q.1 = some q.2) :
    ∀ q ∈ (a, v) :: (b, w) :: l, (fun y => if y = b then some w else if y = a then some v else m y) q.1 = some q.2 := by
  intro q hq
  rcases List.mem_cons.mp hq with rfl | hq
  · exact (if_neg hab).trans (if_pos rfl)
  rcases List.mem_cons.mp hq with rfl | hq
  · exact if_pos rfl
  · have z := List.all_eq_true.mp hl q hq
    rw [Bool.and_eq_true, decide_eq_true_eq, decide_eq_true_eq] at z
    exact (if_neg z.2).trans ((if_neg z.1).trans (hm q hq))
theorem keep2 {h : Heap} {p q : Addr × Obj} {rest own : List (Addr × Obj)} {h₀ : Heap} {L : Addr} (N : News h₀ L h (p :: q :: (rest ++ own))) : News h₀ L h (own ++ p :: q :: rest) := fun r hr => by
  refine N r ?_
  rcases List.mem_append.mp hr with hr | hr
  · exact .tail _ (.tail _ (List.mem_append_right _ hr))
  rcases List.mem_cons.mp hr with rfl | hr
  · exact .head _
  rcases List.mem_cons.mp hr with rfl | hr
  · exact .tail _ (.head _)
  · exact .tail _ (.tail _ (List.mem_append_left _ hr))
theorem turn_own {h : Heap} {p : Addr × Obj} {rest own : List (Addr × Obj)} {h₀ : Heap} {L : Addr} (N : News h₀ L h (own ++ p :: rest)) : News h₀ L h (p :: (rest ++ own)) := fun q hq => by
  refine N q ?_
  rcases List.mem_cons.mp hq with rfl | hq
  · exact List.mem_append_right _ (.head _)
  rcases List.mem_append.mp hq with hq | hq
  · exact List.mem_append_right _ (.tail _ hq)
  · exact List.mem_append_left _ hq
theorem all2 {P : Addr × Obj → Prop} {p q : Addr × Obj} {rest : List (Addr × Obj)} (h1 : P p) (h2 : P q) (h : ∀ r ∈ rest, P r) : ∀ r ∈ p :: q :: rest, P r := fun r hr => by
  rcases List.mem_cons.mp hr with rfl | hr
  · exact h1
  rcases List.mem_cons.mp hr with rfl | hr
  · exact h2
  · exact h r hr
theorem allC {P : Addr × Obj → Prop} {p : Addr × Obj} {rest : List (Addr × Obj)} (h1 : P p) (h : ∀ r ∈ rest, P r) : ∀ r ∈ p :: rest, P r := fun r hr => by
  rcases List.mem_cons.mp hr with rfl | hr
  · exact h1
  · exact h r hr
theorem allA {P : Addr × Obj → Prop} {a b : List (Addr × Obj)} (h1 : ∀ r ∈ a, P r) (h : ∀ r ∈ b, P r) : ∀ r ∈ a ++ b, P r := fun r hr => by
  rcases List.mem_append.mp hr with hr | hr
  · exact h1 r hr
  · exact h r hr
theorem kb1_eq : ∃ p1 p2 x pt q, kb 1 = .For (.Tuple [.Name "word" p1, .Name "gap" p2] x pt) (forIter (kb 1)) [k1 0, k1 1, k1 2] [] q := ⟨_, _, _, _, _, rfl⟩
section
variable {w : World} {A A₀ : Around} {s : Shared} {h₀ base : Heap} {L : Addr} {m mg mb : Str → Option Value} {news : List (Addr × Obj)} {mean : ExcName → Option Value} {p : Program} {loose : List Str} {outer : List Env} {R : Result → Shared → Prop}
local macro_rules | `(tactic| walk_at "eval Call") => `(tactic| (k_here; k_dflt (refine Call_ ?_)))
theorem k1_iter {wa ga : Addr} {wvs gvs : List Value} {na nb : Nat} {news : List (Addr × Obj)} {E : Value → Shared → Prop} {Q : Value → Shared → Prop}
    (X : (KF w.params).In h₀) (T : Top p loose mean mg mb h₀) (F : Fr h₀ L s.heap m) (N : News h₀ L s.heap news) (hm : ∀ q ∈ ([("words", .ref wa), ("gaps", .ref ga)] : List (Str × Value)), m q.1 = some q.2)
    (m1 : (wa, listOf wvs.toArray na) ∈ news) (m2 : (ga, listOf gvs.toArray nb) ∈ news)
    (H : ∀ h' tk I, IsZip h' (I + 4) (I + 2) (I + 3) .none → IsPair h' (I + 2) (.ref I) (.ref (I + 1)) → IsPair h' (I + 3) .none .none → h'.IsListIter I wa 0 → h'.IsListIter (I + 1) ga 0 → h₀.objs.size ≤ I → L < I → (∀ q ∈ news, q.1 < I) →
      Fr h₀ L h' m → News h₀ L h' news → Q (.ref (I + 4)) { s with heap := h', toks := tk }) :
    wpAny (model (RowW.prog (OpenRow.toRowW (OpenLaw.row PySem.Challenge.rw_bd0046_01))) w) A (eval (forIter (kb 1)) (kEnv L)) (fun x s₁ => wpAny (model (RowW.prog (OpenRow.toRowW (OpenLaw.row PySem.Challenge.rw_bd0046_01))) w) A (pyIter x) Q E s₁) E s := by
  conv => 
    arg 3
    arg 1
    whnf
  revert X; k_fill; intro X
  unfold kEnv at *
  rw [map_or hm] at F
  k_steps
  rw [← map_or hm] at F
  refine call_zip_2 ⟨_, (N _ m1).1, rfl, _, rfl⟩ ⟨_, (N _ m2).1, rfl, _, rfl⟩ fun h' z1 z2 z3 z4 z5 z6 z7 => ?_
  refine wpAny_pyIter_zip z1 ?_
  exact H h' s.toks s.heap.objs.size z1 z2 z3 z4 z5 (Nat.le_of_lt (Nat.lt_of_le_of_lt F.above F.ns.lt)) F.ns.lt (fun q hq => Heap.lt_size (N q hq).1) (F.keeps z7) (N.grown z7)

theorem exec3 {prog : Program} {env : Env} {a b c : Stmt} {Q : Flow → Shared → Prop} (h : wpAny (model prog w) A (exec a env) (fun f s₁ => f = .next ∧ wpAny (model prog w) A (exec b env) (fun f s₁ => f = .next ∧ wpAny (model prog w) A (exec c env) (fun f s => f = .next ∧ Q f s) (fun _ _ => False) s₁) (fun _ _ => False) s₁) (fun _ _ => False) s) :
    wpAny (model prog w) A (execs [a, b, c] env) Q (fun _ _ => False) s := by
  refine wpAny_execs_cons (wpAny_mono h (fun f s1 h1 => ?_) fun _ _ z => z)
  obtain ⟨rfl, h1⟩ := h1
  refine wpAny_execs_cons (wpAny_mono h1 (fun f s2 h2 => ?_) fun _ _ z => z)
  obtain ⟨rfl, h2⟩ := h2
  refine wpAny_execs_cons (wpAny_mono h2 (fun f s3 h3 => ?_) fun _ _ z => z)
  obtain ⟨rfl, h3⟩ := h3
  exact wpAny_execs_nil h3
inductive K1J (sp wa : Addr) (rv : Value) (rest0 : List (Addr × Obj)) (wgs : List (Str × Int)) (i : Nat) (m : Str → Option Value) : List (Addr × Obj) → Prop
  | mk {t : Tok} {svs : List Value} {n1 : Nat} {rest : List (Addr × Obj)} (off : ∀ q ∈ rest, q.1 ≠ sp) (sub : ∀ q ∈ rest0, q ∈ rest) (D : DatAll rest svs ((lay (wgs.take i)).2.map datSpot))
      (hm : ∀ q ∈ ([("line", .str (lay (wgs.take i)).1 t), ("spots", .ref sp), ("row", rv), ("words", .ref wa)] : List (Str × Value)), m q.1 = some q.2) : K1J sp wa rv rest0 wgs i m ((sp, listOf svs.toArray n1) :: rest)
theorem facts_out {m : Str → Option Value} {a b c d e : Str × Value} (hm : ∀ q ∈ [a, b, c, d, e], m q.1 = some q.2) : (∀ q ∈ [a, b, c, d], m q.1 = some q.2) ∧ (∀ q ∈ [d, e], m q.1 = some q.2) := by
  refine ⟨fun q hq => hm q ?_, fun q hq => hm q ?_⟩
  · simp only [List.mem_cons, List.not_mem_nil, or_false] at hq ⊢
    rcases hq with h | h | h | h <;> simp [h]
  · simp only [List.mem_cons, List.not_mem_nil, or_false] at hq ⊢
    rcases hq with h | h <;> simp [h]
theorem k1_loop {sp wa ga : Addr} {wvs gvs : List Value} {ws : List Str} {gs : List Int} {na nb n1 : Nat} {rest : List (Addr × Obj)} {rv : Value} {t0 : Tok} {Q : Flow → Shared → Prop}
    (hh : A.handled = none) (X : (KF w.params).In h₀) (T : Top p loose mean mg mb h₀) (F : Fr h₀ L s.heap m) (N : News h₀ L s.heap ((sp, listOf #[] n1) :: rest)) (hoff : ∀ q ∈ rest, q.1 ≠ sp)
    (hm : ∀ q ∈ ([("line", .str "" t0), ("spots", .ref sp), ("row", rv), ("words", .ref wa), ("gaps", .ref ga)] : List (Str × Value)), m q.1 = some q.2)
    (m1 : (wa, listOf wvs.toArray na) ∈ rest) (m2 : (ga, listOf gvs.toArray nb) ∈ rest) (Dw : DatAll [] wvs (ws.map Dat.str)) (Dg : DatAll [] gvs (gs.map Dat.int)) (hlen : ws.length = gs.length) (hfew : ws.length ≤ 90)
    (hws : ∀ x ∈ ws, x.length ≤ 20) (hgs : ∀ g ∈ gs, 0 ≤ g ∧ g ≤ 1)
    (H : ∀ h' tk m' svs n' rest' t, Fr h₀ L h' m' → News h₀ L h' ((sp, listOf svs.toArray n') :: rest') → (∀ q ∈ rest', q.1 ≠ sp) → (∀ q ∈ rest, q ∈ rest') → DatAll rest' svs ((lay (ws.zip gs)).2.map datSpot) →
      (∀ q ∈ ([("line", .str (lay (ws.zip gs)).1 t), ("spots", .ref sp), ("row", rv), ("words", .ref wa)] : List (Str × Value)), m' q.1 = some q.2) → Q .next { s with heap := h', toks := tk }) :
    wpAny (model (RowW.prog (OpenRow.toRowW (OpenLaw.row PySem.Challenge.rw_bd0046_01))) w) A (exec (kb 1) (kEnv L)) Q (fun _ _ => False) s := by
  obtain ⟨p1, p2, x, pt, q, e⟩ := kb1_eq
  rw [e]
  refine wpAny_For ?_
  have hm' := facts_out hm
  refine k1_iter X T F N hm'.2 (.tail _ m1) (.tail _ m2) ?_
  clear e
  intro h' tk I z1 z2 z3 z4 z5 hI hLI hlt F1 N1
  have hwa := N1 _ (.tail _ m1)
  have hga := N1 _ (.tail _ m2)
  have D := ktu_apart I wa ga (hlt _ (.tail _ m1)) (hlt _ (.tail _ m2))
  have W := KTurns.ofWalksU (elts := [.Name "word" p1, .Name "gap" p2]) (k := x) (pos := pt) (WalksT.zip2 (prog := (RowW.prog (OpenRow.toRowW (OpenLaw.row PySem.Challenge.rw_bd0046_01)))) (w := w) (A := A) hh _ _ _ _ _ _ _ D wvs.toArray gvs.toArray).toU
  have hfst := fp_ne (hlt _ (.head _)) (hoff _ m1) (hoff _ m2)
  have lw := Dw.length
  have lg := Dg.length
  rw [List.length_map] at lw lg
  refine ktu_loop (wr := [I + 4, I + 3, I, I + 1]) W (fun hb => fp_ne (hLI : L < I) hwa.2.1 hga.2.1 _ hb rfl) (wr_new hI) (fun q hq => wr_off (hlt q hq)) ⟨z1, z2, ⟨_, _, z3⟩, z4, z5, ⟨_, hwa.1, rfl, _, rfl⟩, ⟨_, hga.1, rfl, _, rfl⟩⟩ F1 N1 (K1J sp wa rv rest (ws.zip gs)) (.mk hoff (fun _ h => h) .nil hm'.1) ?_ ?_
  · rintro i v m₁ news₁ h₁ tk₁ own hi ⟨Tt, vals, rfl, ⟨xv, yv, hx, hy, rfl⟩, hT⟩ ⟨hoff1, hsub, DS, hm1⟩ hnw hown hget hall hst F₁ N₁
    rename_i t svs n1' rest1
    obtain ⟨xi, tx, exi, rfl⟩ := dat_str_at Dw hx
    obtain ⟨gi, ty, egi, rfl⟩ := dat_int_at Dg hy
    have bg := hgs _ (List.mem_of_getElem? egi)
    have elay := lay_take exi egi
    have hl := lay_len ((ws.zip gs).take i) (fun q hq => by
      have hq' := List.of_mem_zip (show (q.1, q.2) ∈ ws.zip gs from List.mem_of_mem_take hq)
      exact ⟨hws _ hq'.1, hgs _ hq'.2⟩)
    have hlt' : ((ws.zip gs).take i).length ≤ 90 := Nat.le_trans (List.length_take_le' ..) (Nat.le_trans (by rw [List.length_zip]; exact Nat.min_le_left _ _) hfew)
    have lsv := DS.length
    rw [List.length_map] at lsv
    refine wpAny_assign_Tuple hh hT rfl rfl fun h₃ hx₃ => ?_
    have up₃ : ∀ b o, h₁.get? b = some o → h₃.get? b = some o := fun b o x => hx₃ b o (Nat.ne_of_lt (Heap.lt_size x)) x
    have F₃ := F₁.keeps up₃
    have N₃ : News h₀ L h₃ (own ++ (sp, listOf svs.toArray n1') :: rest1) := N₁.grown up₃
    clear F₁ N₁ hx hy
    show wpAny _ A (do holding [.int gi ty] (assign (.Name "word" p1) (kEnv L) (.str xi tx)); do holding [] (assign (.Name "gap" p2) (kEnv L) (.int gi ty)); pure ()) _ _ _
    refine wpAny_bind (wpAny_holding (wpAny_assign_Name (wpAny_storeName_local rfl F₃.ns (fun h₄ hn₄ hs₄ => ?_) rfl)))
    have F₄ := F₃.set hn₄ hs₄
    refine wpAny_bind (wpAny_holding (wpAny_assign_Name (wpAny_storeName_local rfl F₄.ns (fun h₅ hn₅ hs₅ => wpAny_pure ?_) rfl)))
    have hlive : ∀ b ∈ [I + 4, I + 3, I, I + 1], ∃ o, h₁.get? b = some o := by
      obtain ⟨y1, y2, ⟨_, _, y3⟩, ⟨_, y4, _⟩, ⟨_, y5, _⟩, _⟩ := hst
      exact List.forall_mem_cons.mpr ⟨⟨_, y1⟩, List.forall_mem_cons.mpr ⟨⟨_, y3⟩, List.forall_mem_cons.mpr ⟨⟨_, y4⟩, List.forall_mem_cons.mpr ⟨⟨_, y5⟩, List.forall_mem_nil _⟩⟩⟩⟩
    refine wpAny_mono (Q := fun f s' => f = .next ∧ LoopStepU h₀ L [I + 4, I + 3, I, I + 1] own (K1J sp wa rv rest (ws.zip gs) (i + 1)) { s with heap := h₁, toks := tk₁ } .next s') (E := fun _ _ => False) ?_ (fun f s' h => by obtain ⟨rfl, h⟩ := h; exact LoopStepV.next h) fun _ _ z => z.elim
    refine exec3 (k1_turn (Q := fun f s' => f = .next ∧ (f = .next ∧ LoopStepU h₀ L [I + 4, I + 3, I, I + 1] own (K1J sp wa rv rest (ws.zip gs) (i + 1)) { s with heap := h₁, toks := tk₁ } .next s'))
      (wx := xi) (line := (lay ((ws.zip gs).take i)).1) (rv := rv) (wv := .ref wa) (g := gi) (t1 := tx) (t2 := ty) (t3 := t) (sp := sp) (svs := svs) (n1 := n1') X T (F₄.set hn₅ hs₅) (set2 (by decide) rfl hm1) bg.1 bg.2 (turn_own ((N₃.set hs₄).set hs₅))
      (allA hoff1 fun q hq => hfst _ (hown q hq)) (Nat.le_trans hl.1 (Nat.le_trans (Nat.mul_le_mul_left 21 hlt') (by decide))) (hws _ (List.mem_of_getElem? exi)) (Nat.le_trans (Nat.le_of_eq (lsv.trans hl.2.1)) (Nat.le_trans hlt' (by decide))) ?_)
    intro h6 tk6 m6 t6 u6 D6 F6 hm6 N6' nD lD
    refine ⟨rfl, rfl, rfl, h6, tk6, m6, _, rfl, F6, keep2 N6', all2 (hnw (sp, listOf svs.toArray n1') (.head _)) (off_of_apart (added := [(D6, _)]) (own := own) W.sub (wr_new hI) hlive hall (fun q hq r hr => by rw [List.mem_singleton.mp hq]; exact Ne.symm (Nat.ne_of_lt (lD r (List.mem_append_right _ hr)))) _ (.head _)) fun q hq => hnw _ (.tail _ hq), ?_⟩
    refine K1J.mk (t := t6) (allC nD hoff1) (fun q hq => .tail _ (hsub q hq)) ?_ ?_
    · rw [elay]
      unfold layStep
      rw [List.map_append]
      exact (DS.mono fun q hq => .tail _ hq).append (.cons (.tuple (.head _) (.cons (.str _ _) (.cons (.int _ _) .nil))) .nil)
    · rw [elay]
      exact hm6
  · rintro h' tk m' news' F' N' - ⟨hoff1, hsub, DS, hm1⟩
    have hl : min wvs.toArray.size gvs.toArray.size = (ws.zip gs).length := by rw [List.size_toArray, List.size_toArray, List.length_zip, lw, lg]
    rw [hl, List.take_length] at DS hm1
    exact H _ _ _ _ _ _ _ F' N' hoff1 hsub DS hm1
end
end Mine

end
section
open PySem PySem.W PyProof.Rows PySem.Calls Builtin
set_option maxHeartbeats 16000000
namespace Mine
section
variable {w : World} {A A₀ : Around} {s : Shared} {h₀ base : Heap} {L : Addr} {m mg mb : Str → Option Value} {news : List (Addr × Obj)} {mean : ExcName → Option Value} {p : Program} {loose : List Str} {outer : List Env} {R : Result → Shared → Prop}
def PairStep (h₀ : Heap) (L : Addr) (I : Addr) (own : List (Addr × Obj)) (J : (Str → Option Value) → List (Addr × Obj) → Prop) (s : Shared) (f : Flow) (s' : Shared) : Prop :=
  f = .next ∧ ∃ h' tk m₂ news₂, s' = { s with heap := h', toks := tk } ∧ Fr h₀ L h' m₂ ∧ News h₀ L h' (own ++ news₂) ∧ (∀ q ∈ news₂, q.1 ≠ I) ∧ J m₂ news₂
/-- a loop with a target of two names over a list of pairs that stands in the ledger -/
theorem pair_iter {prog : Program} {env : Env} {xi xc : Str} {pk pv pt : Pos} {x1 : Nat} {body : List Stmt} {l : Addr} {vs : List Value} {nl : Nat} {E : Value → Shared → Prop} {Q : Flow → Shared → Prop} (P : Nat → Value → Value → Prop)
    (J : Nat → (Str → Option Value) → List (Addr × Obj) → Prop) (hxi : env.kindOf xi = some .local) (hxc : env.kindOf xc = some .local)
    (hp : (env.scope.kind == .class || (env.scope.kind == .module && env.locals != env.globals)) = false) (hh : A.handled = none)
    (F : Fr h₀ env.locals s.heap m) (N : News h₀ env.locals s.heap news) (hl : (l, listOf vs.toArray nl) ∈ news) (h0 : J 0 m news)
    (Jt : ∀ i m n v, J i m n → vs[i]? = some v → ∃ a v0 v1 k, v = .ref a ∧ (a, ({ cls := .type "tuple", data := .seq #[v0, v1] k } : Obj)) ∈ n ∧ P i v0 v1)
    (step : ∀ I i v0 v1 m₁ news₁ h₁ tk₁ own, (∀ q ∈ news, q.1 < I) → i < vs.length → P i v0 v1 → J i m₁ news₁ → (∀ q ∈ own, q.1 = I ∨ q.1 = l) → (∃ o, (I, o) ∈ own) → (∀ q ∈ news₁, q.1 ≠ I) →
      Fr h₀ env.locals h₁ (fun y => if y = xc then some v1 else if y = xi then some v0 else m₁ y) → News h₀ env.locals h₁ (own ++ news₁) →
      wpAny (model prog w) A (execs body env) (PairStep h₀ env.locals I own (J (i + 1)) s) (fun _ _ => False) { s with heap := h₁, toks := tk₁ })
    (done : ∀ h' tk m' news', Fr h₀ env.locals h' m' → News h₀ env.locals h' news' → J vs.length m' news' → Q .next { s with heap := h', toks := tk }) :
    wpAny (model prog w) A (pyIter (.ref l)) (fun it s₂ => codeAny (model prog w) A (.forLoop (.Tuple [.Name xi pk, .Name xc pv] x1 pt) it body [] env) (fun r s' => match r with | .ok f => Q f s' | .error e => cameBackBy (model prog w) A env E e s') s₂) E s := by
  have hax := N _ hl
  have hL : s.heap.IsList l vs.toArray := ⟨_, hax.1, rfl, nl, rfl⟩
  have hlt : l < s.heap.objs.size := Heap.lt_size hax.1
  have hne : l ≠ s.heap.objs.size := Nat.ne_of_lt hlt
  have hnew : ∀ q ∈ news, q.1 < s.heap.objs.size := fun q hq => Heap.lt_size (N q hq).1
  refine wpAny_pyIter_list hL ?_
  have W := KTurns.ofWalks (target := .Tuple [.Name xi pk, .Name xc pv] x1 pt) (Walks.list (prog := prog) (w := w) (A := A) hh s.heap.objs.size l hne vs.toArray) fun i v s Q E st q => letGo_listiter st.1 q
  have h0I : h₀.get? s.heap.objs.size = none := ktu_new F (Nat.le_refl _)
  refine ktu_loop (wr := [s.heap.objs.size]) W ?_ ?_ ?_ ?_ (F.push _) (fun p hp => ⟨Heap.get?_push_of_some _ (N p hp).1, (N p hp).2⟩) J h0 ?_ ?_
  · intro hI
    rcases List.mem_cons.mp hI with e | hI
    · exact absurd F.ns.lt (e ▸ Nat.lt_irrefl _)
    · exact hax.2.1 (List.mem_singleton.mp hI).symm
  · intro b hb
    rw [List.mem_singleton.mp hb]
    exact h0I
  · intro p hp hI
    exact absurd (hnew p hp) ((List.mem_singleton.mp hI) ▸ Nat.lt_irrefl _)
  · exact ⟨⟨_, Heap.get?_push_size _ rfl, rfl, rfl⟩, hL.at fun o e => Heap.get?_push_of_some _ e⟩
  · intro i v m₁ news₁ h₁ tk₁ own hi hv hJ hnw hown hget hall hst F₁ N₁
    have hv' : vs[i]? = some v := by
      have z : vs.toArray[i]? = some v := hv
      simpa using z
    obtain ⟨a, v0, v1, k, rfl, ha, hP⟩ := Jt i m₁ news₁ v hJ hv'
    have hT : h₁.IsTuple a #[v0, v1] := ⟨_, (N₁ _ (List.mem_append_right _ ha)).1, rfl, _, rfl⟩
    refine wpAny_assign_Tuple hh hT rfl rfl fun h₃ hx₃ => ?_
    have up₃ : ∀ b o, h₁.get? b = some o → h₃.get? b = some o := fun b o x => hx₃ b o (Nat.ne_of_lt (Heap.lt_size x)) x
    have F₃ := F₁.keeps up₃
    have N₃ : News h₀ env.locals h₃ (own ++ news₁) := N₁.grown up₃
    show wpAny _ A (do holding [v1] (assign (.Name xi pk) env v0); do holding [] (assign (.Name xc pv) env v1); pure ()) _ _ _
    refine wpAny_bind (wpAny_holding (wpAny_assign_Name (wpAny_storeName_local hxi F₃.ns (fun h₄ hn₄ hs₄ => ?_) hp)))
    replace hs₄ : Heap.SameBut env.locals h₃ h₄ := hs₄
    have F₄ := F₃.set hn₄ hs₄
    refine wpAny_bind (wpAny_holding (wpAny_assign_Name (wpAny_storeName_local hxc F₄.ns (fun h₅ hn₅ hs₅ => wpAny_pure ?_) hp)))
    replace hs₅ : Heap.SameBut env.locals h₄ h₅ := hs₅
    have F₅ := F₄.set hn₅ hs₅
    have N₅ : News h₀ env.locals h₅ (own ++ news₁) := (N₃.set hs₄).set hs₅
    obtain ⟨oI, hoI, -⟩ := hst.1
    refine wpAny_mono (Q := PairStep h₀ env.locals s.heap.objs.size own (J (i + 1)) s) (E := fun _ _ => False) (step s.heap.objs.size i v0 v1 m₁ news₁ h₅ _ own hnew (by simpa using hi) hP hJ ?_ ⟨oI, hall _ (.head _) h0I oI hoI⟩ ?_ F₅ N₅) (fun f s' h => ?_) fun _ _ z => z.elim
    · intro q hq
      rcases List.mem_cons.mp (hown q hq) with e | e
      · exact .inl e
      · exact .inr (List.mem_singleton.mp e)
    · intro q hq e
      exact hnw q hq (List.mem_singleton.mpr e)
    · obtain ⟨rfl, h', tk, m₂, news₂, rfl, F', N', hI, hJ'⟩ := h
      exact LoopStepV.next ⟨rfl, h', tk, m₂, news₂, rfl, F', N', fun q hq e => hI q hq (List.mem_singleton.mp e), hJ'⟩
  · intro h' tk m' news' F' N' _ hJ
    rw [List.size_toArray] at hJ
    exact done h' tk m' news' F' N' hJ
end
end Mine

end
section
open PySem PySem.W PyProof.Rows PySem.Calls Builtin
set_option maxHeartbeats 16000000
namespace Mine
def TokOk (N : List (Addr × Obj)) (t : TK) (p : Str × Int) : Prop :=
  t.text = p.1 ∧ ∃ d v t1 en ln st t6 t7, t.sv = .ref st ∧ (t.a, tokObj d [v, .str p.1 t1, .ref st, en, ln]) ∈ N ∧ (st, ({ cls := .type "tuple", data := .seq #[.int 2 t6, .int p.2 t7] } : Obj)) ∈ N
def TokAll (N : List (Addr × Obj)) : List TK → List (Str × Int) → Prop
  | [], [] => True
  | t :: ts, p :: ps => TokOk N t p ∧ TokAll N ts ps
  | _, _ => False
theorem TokOk.mono {N N' : List (Addr × Obj)} (hs : ∀ q ∈ N, q ∈ N') {t : TK} {p : Str × Int} (h : TokOk N t p) : TokOk N' t p :=
  let ⟨e, d, v, t1, en, ln, st, t6, t7, e1, m1, m2⟩ := h
  ⟨e, d, v, t1, en, ln, st, t6, t7, e1, hs _ m1, hs _ m2⟩
theorem TokAll.mono {N N' : List (Addr × Obj)} (hs : ∀ q ∈ N, q ∈ N') : ∀ {ts : List TK} {ps : List (Str × Int)}, TokAll N ts ps → TokAll N' ts ps
  | [], [], _ => trivial
  | _ :: _, _ :: _, ⟨a, b⟩ => ⟨a.mono hs, TokAll.mono hs b⟩
  | [], _ :: _, h => (show False from h).elim
  | _ :: _, [], h => (show False from h).elim
theorem TokAll.snoc {N : List (Addr × Obj)} {t : TK} {p : Str × Int} (h1 : TokOk N t p) : ∀ {ts : List TK} {ps : List (Str × Int)}, TokAll N ts ps → TokAll N (ts ++ [t]) (ps ++ [p])
  | [], [], _ => ⟨h1, trivial⟩
  | _ :: _, _ :: _, ⟨a, b⟩ => ⟨a, TokAll.snoc h1 b⟩
  | [], _ :: _, h => (show False from h).elim
  | _ :: _, [], h => (show False from h).elim
theorem TokAll.length {N : List (Addr × Obj)} : ∀ {ts : List TK} {ps : List (Str × Int)}, TokAll N ts ps → ts.length = ps.length
  | [], [], _ => rfl
  | _ :: _, _ :: _, ⟨_, b⟩ => congrArg (· + 1) (TokAll.length b)
  | [], _ :: _, h => (show False from h).elim
  | _ :: _, [], h => (show False from h).elim
theorem TokAll.texts {N : List (Addr × Obj)} : ∀ {ts : List TK} {ps : List (Str × Int)}, TokAll N ts ps → ts.map (·.text) = ps.map (·.1)
  | [], [], _ => rfl
  | _ :: _, _ :: _, ⟨a, b⟩ => by simp only [List.map_cons, TokAll.texts b, a.1]
  | [], _ :: _, h => (show False from h).elim
  | _ :: _, [], h => (show False from h).elim
theorem TokAll.mem {N : List (Addr × Obj)} {t : TK} : ∀ {ts : List TK} {ps : List (Str × Int)}, TokAll N ts ps → t ∈ ts → ∃ p ∈ ps, TokOk N t p
  | [], _, _, h => nomatch h
  | _ :: _, _ :: _, ⟨a, b⟩, h => by
    rcases List.mem_cons.mp h with rfl | h
    · exact ⟨_, .head _, a⟩
    · obtain ⟨p, hp, q⟩ := TokAll.mem b h
      exact ⟨p, .tail _ hp, q⟩
  | _ :: _, [], h, _ => (show False from h).elim
theorem kb3_eq : ∃ p1 p2 x pt q, kb 3 = .For (.Tuple [.Name "word" p1, .Name "spot" p2] x pt) (forIter (kb 3)) [k2 0] [] q := ⟨_, _, _, _, _, rfl⟩
section
variable {w : World} {A A₀ : Around} {s : Shared} {h₀ base : Heap} {L : Addr} {m mg mb : Str → Option Value} {news : List (Addr × Obj)} {mean : ExcName → Option Value} {p : Program} {loose : List Str} {outer : List Env} {R : Result → Shared → Prop}
theorem k2_iter {sp : Addr} {E : Value → Shared → Prop} {Q : Value → Shared → Prop}
    (X : (KF w.params).In h₀) (T : Top p loose mean mg mb h₀) (F : Fr h₀ L s.heap m) (hm : m "spots" = some (.ref sp))
    (H : Q (.ref sp) s) : wpAny (model (RowW.prog (OpenRow.toRowW (OpenLaw.row PySem.Challenge.rw_bd0046_01))) w) A (eval (forIter (kb 3)) (kEnv L)) Q E s := by
  conv => 
    arg 3
    arg 1
    whnf
  revert X; k_fill; intro X
  unfold kEnv at *
  rw [map_or (l := [("spots", .ref sp)]) (m := m) (List.forall_mem_cons.mpr ⟨hm, List.forall_mem_nil _⟩)] at F
  k_steps
  exact H
inductive K2J (fo : Addr) (line : Str) (t3 t4 : Tok) (rest0 : List (Addr × Obj)) (ps : List (Str × Int)) (i : Nat) (m : Str → Option Value) : List (Addr × Obj) → Prop
  | mk {tks : List TK} {n1 : Nat} {rest : List (Addr × Obj)} (off : ∀ q ∈ rest, q.1 ≠ fo) (sub : ∀ q ∈ rest0, q ∈ rest) (TA : TokAll rest tks (ps.take i))
      (hm : ∀ q ∈ ([("line", .str line t3), ("found", .ref fo), ("row", .int 2 t4)] : List (Str × Value)), m q.1 = some q.2) : K2J fo line t3 t4 rest0 ps i m ((fo, listOf (tks.map fun t => Value.ref t.a).toArray n1) :: rest)
theorem dat_spot_at {N : List (Addr × Obj)} {vs : List Value} {ps : List (Str × Int)} {i : Nat} {v : Value} (D : DatAll N vs (ps.map datSpot)) (h : vs[i]? = some v) :
    ∃ a q t1 t2 k, ps[i]? = some q ∧ v = .ref a ∧ (a, ({ cls := .type "tuple", data := .seq #[.str q.1 t1, .int q.2 t2] k } : Obj)) ∈ N := by
  obtain ⟨q, e, d⟩ := datAll_at D h
  obtain ⟨a, v0, v1, k, rfl, hm, d0, d1⟩ := datIn_tup2 d
  obtain ⟨t1, rfl⟩ := datIn_str d0
  obtain ⟨t2, rfl⟩ := datIn_int d1
  exact ⟨a, q, t1, t2, k, e, rfl, hm⟩
theorem keep3 {h : Heap} {p q r : Addr × Obj} {rest own : List (Addr × Obj)} (N : News h₀ L h (p :: q :: r :: (rest ++ own))) : News h₀ L h (own ++ p :: q :: r :: rest) := fun x hx => by
  refine N x ?_
  rcases List.mem_append.mp hx with hx | hx
  · exact .tail _ (.tail _ (.tail _ (List.mem_append_right _ hx)))
  · rcases List.mem_cons.mp hx with rfl | hx
    · exact .head _
    rcases List.mem_cons.mp hx with rfl | hx
    · exact .tail _ (.head _)
    rcases List.mem_cons.mp hx with rfl | hx
    · exact .tail _ (.tail _ (.head _))
    · exact .tail _ (.tail _ (.tail _ (List.mem_append_left _ hx)))
theorem own_off {own : List (Addr × Obj)} {I l a : Addr} (ho : ∀ q ∈ own, q.1 = I ∨ q.1 = l) (h1 : I ≠ a) (h2 : l ≠ a) : ∀ q ∈ own, q.1 ≠ a := fun q hq e => by
  rcases ho q hq with x | x
  · exact h1 (x ▸ e)
  · exact h2 (x ▸ e)
theorem take_snoc {α : Type} {ps : List α} {i : Nat} {q : α} (h : ps[i]? = some q) : ps.take (i + 1) = ps.take i ++ [q] := by rw [List.take_add_one, h]; rfl
theorem k2_loop {fo sp : Addr} {svs : List Value} {ps : List (Str × Int)} {n1 n2 : Nat} {rest : List (Addr × Obj)} {line : Str} {t3 t4 : Tok} {Q : Flow → Shared → Prop}
    (B : Below A₀ base outer h₀) (hA : A.frames = some (kEnv L :: outer)) (hroom : A.depth + 20 < recursionLimit) (hh : A.handled = none) (X : (KF w.params).In h₀) (T : Top p loose mean mg mb h₀)
    (F : Fr h₀ L s.heap m) (N : News h₀ L s.heap ((fo, listOf #[] n1) :: rest)) (hoff : ∀ q ∈ rest, q.1 ≠ fo)
    (hm : ∀ q ∈ ([("line", .str line t3), ("found", .ref fo), ("row", .int 2 t4)] : List (Str × Value)), m q.1 = some q.2) (hms : m "spots" = some (.ref sp))
    (m1 : (sp, listOf svs.toArray n2) ∈ rest) (DS : DatAll rest svs (ps.map datSpot)) (hps : ∀ q ∈ ps, q.1 ∈ vocab ∧ q.1.length ≤ 20 ∧ 0 ≤ q.2 ∧ q.2 ≤ 2000) (hfew : ps.length ≤ 90) (hline : line.length ≤ 2000)
    (H : ∀ h' tk m' tks n' rest', Fr h₀ L h' m' → News h₀ L h' ((fo, listOf (tks.map fun t => Value.ref t.a).toArray n') :: rest') → (∀ q ∈ rest', q.1 ≠ fo) → (∀ q ∈ rest, q ∈ rest') → TokAll rest' tks ps → m' "found" = some (.ref fo) → Q .next { s with heap := h', toks := tk }) :
    wpAny (model (RowW.prog (OpenRow.toRowW (OpenLaw.row PySem.Challenge.rw_bd0046_01))) w) A (exec (kb 3) (kEnv L)) Q (fun _ _ => False) s := by
  obtain ⟨p1, p2, x, pt, q, e⟩ := kb3_eq
  rw [e]
  refine wpAny_For ?_
  refine k2_iter X T F hms ?_
  clear e hms
  have lsv := DS.length
  rw [List.length_map] at lsv
  refine pair_iter (P := fun i v0 v1 => ∃ q t1 t2, ps[i]? = some q ∧ v0 = .str q.1 t1 ∧ v1 = .int q.2 t2) (J := K2J fo line t3 t4 rest ps) rfl rfl rfl hh F N (.tail _ m1) (K2J.mk (tks := []) hoff (fun _ h => h) trivial hm) ?_ ?_ ?_
  · rintro i m n v ⟨-, hsub, -, -⟩ hv
    obtain ⟨a, q, t1, t2, k, eq, rfl, hmem⟩ := dat_spot_at DS hv
    exact ⟨_, _, _, _, rfl, .tail _ (hsub _ hmem), q, _, _, eq, rfl, rfl⟩
  · rintro I i v0 v1 m₁ news₁ h₁ tk₁ own hI hi ⟨q, t1, t2, eq, rfl, rfl⟩ ⟨hoff1, hsub, TA, hm1⟩ hown ⟨oI, hoI⟩ hnw F₁ N₁
    rename_i tks n1' rest1
    obtain ⟨b1, b2, b3, b4⟩ := hps q (List.mem_of_getElem? eq)
    have lfo : @LT.lt Nat _ fo I := hI _ (.head _)
    have lTA : (tks.map fun t => Value.ref t.a).length ≤ 100 := by rw [List.length_map, TA.length]; exact Nat.le_trans (List.length_take_le' ..) (Nat.le_trans hfew (by decide))
    refine wpAny_execs_cons (wpAny_mono (k2_turn (Q := fun f s' => f = .next ∧ PairStep h₀ L I own (K2J fo line t3 t4 rest ps (i + 1)) s .next s') (wx := q.1) (line := line) (sp := q.2) (rw_ := 2) (t1 := t1) (t2 := t2) (t3 := t3) (t4 := t4) (fo := fo) (fvs := tks.map fun t => Value.ref t.a) (n1 := n1')
      B hA hroom b1 X T F₁ (set2 (by decide) rfl hm1) b3 b4 (turn_own N₁) (allA hoff1 (own_off hown (Ne.symm (Nat.ne_of_lt lfo)) (hoff _ m1))) hline b2 lTA ?_) (fun f s1 h1 => by obtain ⟨rfl, h1⟩ := h1; exact wpAny_execs_nil h1) fun _ _ z => z)
    intro h6 tk6 m6 a6 d6 v6 st6 en6 t5 t6 t7 F6 hm6 N6' na nst la lst
    have nIa : a6 ≠ I := Ne.symm (Nat.ne_of_lt (la _ (List.mem_append_right _ hoI)))
    have nIs : st6 ≠ I := Ne.symm (Nat.ne_of_lt (lst _ (List.mem_append_right _ hoI)))
    refine ⟨rfl, rfl, h6, tk6, m6, _, rfl, F6, keep3 N6', allC (Nat.ne_of_lt lfo) (all2 nIa nIs fun r hr => hnw _ (.tail _ hr)), ?_⟩
    have e9 : (tks.map fun t => Value.ref t.a) ++ [Value.ref a6] = (tks ++ [(⟨q.1, a6, .ref st6⟩ : TK)]).map fun t => Value.ref t.a := by rw [List.map_append]; rfl
    rw [e9]
    refine K2J.mk (all2 na nst hoff1) (fun r hr => .tail _ (.tail _ (hsub r hr))) ?_ hm6
    rw [take_snoc eq]
    exact (TA.mono fun r hr => .tail _ (.tail _ hr)).snoc (t := ⟨q.1, a6, .ref st6⟩) (p := q) ⟨rfl, d6, v6, t1, en6, _, st6, t6, t7, rfl, .head _, .tail _ (.head _)⟩
  · rintro h' tk m' news' F' N' ⟨hoff1, hsub, TA, hm1⟩
    rw [lsv, List.take_length] at TA
    exact H _ _ _ _ _ _ F' N' hoff1 hsub TA (hm1 _ (.tail _ (.head _)))
end
end Mine

end
section
open PySem PySem.W PyProof.Rows PySem.Calls Builtin
set_option maxHeartbeats 16000000
namespace Mine
theorem kBody_eq : kBody = [kb 0, kb 1, kb 2, kb 3, kb 4] := rfl
section
variable {w : World} {A A₀ : Around} {s : Shared} {h₀ base : Heap} {L : Addr} {m mg mb : Str → Option Value} {news : List (Addr × Obj)} {mean : ExcName → Option Value} {p : Program} {loose : List Str} {env : Env} {outer : List Env} {R : Result → Shared → Prop}
local macro_rules | `(tactic| walk_at "unpackItems ref") => `(tactic| (k_here; k_dflt (refine' unpackItemsN_ ?k1 ?k2 ?k3 ?k4 ?k5 ?_; (case k1 => k_asm); (case k2 => k_asm); (case k3 => kun_tup); (case k4 => assumption); (case k5 => exact rfl); k_whole); intro h' F' N'; (try k_sweep)))
theorem kb0_ {rv wv gv : Value} {Q : Flow → Shared → Prop}
    (hh : A.handled = none) (X : (KF w.params).In h₀) (T : Top p loose mean mg mb h₀) (F : Fr h₀ L s.heap m) (N : News h₀ L s.heap news) (hm : ∀ q ∈ ([("words", wv), ("gaps", gv), ("row", rv)] : List (Str × Value)), m q.1 = some q.2)
    (H : ∀ h' tk m' sp t, Fr h₀ L h' m' → News h₀ L h' ((sp, listOf #[] 0) :: news) → (∀ q ∈ news, q.1 < sp) → (∀ q ∈ ([("line", .str "" t), ("spots", .ref sp), ("row", rv), ("words", wv), ("gaps", gv)] : List (Str × Value)), m' q.1 = some q.2) → Q .next { s with heap := h', toks := tk }) :
    wpAny (model (RowW.prog (OpenRow.toRowW (OpenLaw.row PySem.Challenge.rw_bd0046_01))) w) A (exec (kb 0) (kEnv L)) Q (fun _ _ => False) s := by
  conv => 
    arg 3
    arg 1
    whnf
  revert X; k_fill; intro X
  unfold kEnv at *
  rw [map_or hm] at F
  k_steps
  (rename Fr _ _ _ _ => F9); (rename News _ _ _ _ => N9); (rename ∀ p : Addr × Obj, p ∈ news → p.1 < _ => l9)
  exact H _ _ _ _ _ F9 (fun q hq => N9 q (.tail _ hq)) l9 (List.forall_mem_cons.mpr ⟨rfl, List.forall_mem_cons.mpr ⟨rfl, List.forall_mem_cons.mpr ⟨rfl, List.forall_mem_cons.mpr ⟨rfl, List.forall_mem_cons.mpr ⟨rfl, List.forall_mem_nil _⟩⟩⟩⟩⟩)
theorem kb2_ {rv wv lv sv : Value} {Q : Flow → Shared → Prop}
    (X : (KF w.params).In h₀) (T : Top p loose mean mg mb h₀) (F : Fr h₀ L s.heap m) (N : News h₀ L s.heap news) (hm : ∀ q ∈ ([("line", lv), ("spots", sv), ("row", rv), ("words", wv)] : List (Str × Value)), m q.1 = some q.2)
    (H : ∀ h' tk m' fo, Fr h₀ L h' m' → News h₀ L h' ((fo, listOf #[] 0) :: news) → (∀ q ∈ news, q.1 < fo) → (∀ q ∈ ([("line", lv), ("found", .ref fo), ("row", rv), ("spots", sv)] : List (Str × Value)), m' q.1 = some q.2) → Q .next { s with heap := h', toks := tk }) :
    wpAny (model (RowW.prog (OpenRow.toRowW (OpenLaw.row PySem.Challenge.rw_bd0046_01))) w) A (exec (kb 2) (kEnv L)) Q (fun _ _ => False) s := by
  conv => 
    arg 3
    arg 1
    whnf
  revert X; k_fill; intro X
  unfold kEnv at *
  rw [map_or hm] at F
  k_steps
  (rename Fr _ _ _ _ => F9); (rename News _ _ _ _ => N9); (rename ∀ p : Addr × Obj, p ∈ news → p.1 < _ => l9)
  exact H _ _ _ _ F9 N9 l9 (List.forall_mem_cons.mpr ⟨rfl, List.forall_mem_cons.mpr ⟨rfl, List.forall_mem_cons.mpr ⟨rfl, List.forall_mem_cons.mpr ⟨rfl, List.forall_mem_nil _⟩⟩⟩⟩)
theorem kb4_ {fv : Value} {Q : Flow → Shared → Prop} 
    (X : (KF w.params).In h₀) (T : Top p loose mean mg mb h₀) (F : Fr h₀ L s.heap m) (N : News h₀ L s.heap news) (hm : m "found" = some fv)
    (H : ∀ tk, Q (.ret fv) { s with toks := tk }) :
    wpAny (model (RowW.prog (OpenRow.toRowW (OpenLaw.row PySem.Challenge.rw_bd0046_01))) w) A (exec (kb 4) (kEnv L)) Q (fun _ _ => False) s := by
  conv => 
    arg 3
    arg 1
    whnf
  revert X; k_fill; intro X
  unfold kEnv at *
  rw [map_or (l := [("found", fv)]) (m := m) (List.forall_mem_cons.mpr ⟨hm, List.forall_mem_nil _⟩)] at F
  k_steps
  exact H _
theorem vocab_len : ∀ x ∈ vocab, x.length ≤ 20 := by decide +kernel
theorem tokens_call {wa ga : Addr} {wvs gvs : List Value} {ws : List Str} {gs : List Int} {na nb : Nat} {tr : Tok}
    (B : Below A₀ base outer h₀) (F : Fr h₀ L s.heap m) (X : (KF w.params).In h₀) (N : News h₀ L s.heap news) (T : Top p loose mean mg mb h₀) (hA : A.frames = some (env :: outer)) (hf : env.frame = some L) (hke : env.scope.kind = .function)
    (hroom : A.depth + 40 < recursionLimit) (hh : A.handled = none)
    (m1 : (wa, listOf wvs.toArray na) ∈ news) (m2 : (ga, listOf gvs.toArray nb) ∈ news) (Dw : DatAll [] wvs (ws.map Dat.str)) (Dg : DatAll [] gvs (gs.map Dat.int)) (hlen : ws.length = gs.length) (hfew : ws.length ≤ 90)
    (hws : ∀ x ∈ ws, x ∈ vocab) (hgs : ∀ g ∈ gs, 0 ≤ g ∧ g ≤ 1)
    (H : ∀ h' tk fo tks n' rest', Fr h₀ L h' m → News h₀ L h' ((fo, listOf (tks.map fun t => Value.ref t.a).toArray n') :: rest') → (∀ q ∈ rest', q.1 ≠ fo) → (∀ q ∈ news, q ∈ rest') → TokAll rest' tks (lay (ws.zip gs)).2 → R (.ok (.ret (.ref fo))) { s with heap := h', toks := tk }) :
    codeAny (model (RowW.prog (OpenRow.toRowW (OpenLaw.row PySem.Challenge.rw_bd0046_01))) w) A (.call (.ref 193) ⟨[.ref wa, .ref ga, .int 2 tr], []⟩) R s := by
  revert X; k_fill; intro X
  refine' code_def B F X N T hA hf hke ?k6 ?k7 (by omega) ?k9 ?kB ?_ ?c2 ?c3 ?c4 ?c5
  case k6 => k_is
  case k7 => k_is
  case k9 => exact BindsTo.of_eq rfl
  case c5 => decide
  case kB => exact locs rfl
  case c2 => exact rfl
  case c3 => exact rfl
  case c4 => exact rfl
  intro g' L' h' FG' F' N' B' X' T'
  (try dsimp only)
  k_fold
  have hA' : (A.deeper (kEnv L')).frames = some (kEnv L' :: env :: outer) := Around.frames_deeper hA
  have hroom' : (A.deeper (kEnv L')).depth + 20 < recursionLimit := by show A.depth + 1 + 20 < _; omega
  have hh' : (A.deeper (kEnv L')).handled = none := hh
  have hz : ∀ q ∈ ws.zip gs, q.1.length ≤ 20 ∧ 0 ≤ q.2 ∧ q.2 ≤ 1 := fun q hq => by
    have hq' := List.of_mem_zip (show (q.1, q.2) ∈ ws.zip gs from hq)
    exact ⟨vocab_len _ (hws _ hq'.1), hgs _ hq'.2⟩
  obtain ⟨z1, z2, z3, z4⟩ := lay_len (ws.zip gs) hz
  have hzl : (ws.zip gs).length ≤ 90 := by rw [List.length_zip]; omega
  show wpAny (model (RowW.prog (OpenRow.toRowW (OpenLaw.row PySem.Challenge.rw_bd0046_01))) w) (A.deeper (kEnv L')) (execs [kb 0, kb 1, kb 2, kb 3, kb 4] (kEnv L')) _ _ _
  refine wpAny_mono (Q := fun fl s' => ∃ fo, fl = .ret (.ref fo) ∧ LeaveK h₀ L m g' R (.ref fo) s') (E := fun _ _ => False) ?_ (fun fl s' h => by obtain ⟨fo, rfl, h⟩ := h; exact h) fun _ _ z => z.elim
  refine wpAny_execs_cons (kb0_ (rv := .int 2 tr) (wv := .ref wa) (gv := .ref ga) hh' X' T' F' N' ?_ ?_)
  · exact List.forall_mem_cons.mpr ⟨rfl, List.forall_mem_cons.mpr ⟨rfl, List.forall_mem_cons.mpr ⟨rfl, List.forall_mem_nil _⟩⟩⟩
  intro h1 tk1 m1' sp t1 F1 N1 l1 hm1
  refine wpAny_execs_cons (k1_loop (sp := sp) (ws := ws) (gs := gs) hh' X' T' F1 N1 (fun q hq => Nat.ne_of_lt (l1 q hq)) hm1 m1 m2 Dw Dg hlen hfew (fun x hx => vocab_len x (hws x hx)) hgs ?_)
  intro h2 tk2 m2' svs n2 rest2 t2 F2 N2 hoff2 hsub2 DS hm2
  refine wpAny_execs_cons (kb2_ X' T' F2 N2 (sv := .ref sp) (lv := .str (lay (ws.zip gs)).1 t2) (rv := .int 2 tr) (wv := .ref wa) ?_ ?_)
  · exact List.forall_mem_cons.mpr ⟨hm2 _ (.head _), List.forall_mem_cons.mpr ⟨hm2 _ (.tail _ (.head _)), List.forall_mem_cons.mpr ⟨hm2 _ (.tail _ (.tail _ (.head _))), List.forall_mem_cons.mpr ⟨hm2 _ (.tail _ (.tail _ (.tail _ (.head _)))), List.forall_mem_nil _⟩⟩⟩⟩
  intro h3 tk3 m3 fo F3 N3 l3 hm3
  refine wpAny_execs_cons (k2_loop (fo := fo) (sp := sp) (ps := (lay (ws.zip gs)).2) (line := (lay (ws.zip gs)).1) (t3 := t2) (t4 := tr) B' hA' hroom' hh' X' T' F3 N3 (fun q hq => Nat.ne_of_lt (l3 q hq)) ?_ (hm3 _ (.tail _ (.tail _ (.tail _ (.head _))))) (.head _) (DS.mono fun q hq => .tail _ hq) ?_ ?_ ?_ ?_)
  · exact List.forall_mem_cons.mpr ⟨hm3 _ (.head _), List.forall_mem_cons.mpr ⟨hm3 _ (.tail _ (.head _)), List.forall_mem_cons.mpr ⟨hm3 _ (.tail _ (.tail _ (.head _))), List.forall_mem_nil _⟩⟩⟩
  · intro q hq
    have e : q.1 ∈ (ws.zip gs).map (·.1) := z3 ▸ List.mem_map.mpr ⟨q, hq, rfl⟩
    obtain ⟨r, hr, er⟩ := List.mem_map.mp e
    have hr' := List.of_mem_zip (show (r.1, r.2) ∈ ws.zip gs from hr)
    rw [er] at hr'
    have b := z4 q hq
    exact ⟨hws _ hr'.1, vocab_len _ (hws _ hr'.1), b.1, by omega⟩
  · omega
  · omega
  intro h4 tk4 m4 tks n4 rest4 F4 N4 hoff4 hsub4 TA hm4
  refine wpAny_execs_cons (kb4_ (fv := .ref fo) X' T' F4 N4 hm4 fun tk5 => ?_)
  refine ⟨fo, rfl, leaveK_ F4 N4 fun FF NN => ?_⟩
  exact H _ _ fo tks n4 rest4 FF NN hoff4 (fun q hq => hsub4 _ (.tail _ (hsub2 _ hq))) TA
end
end Mine

end
section
open PySem PySem.W PyProof.Rows PySem.Calls Builtin
set_option maxHeartbeats 16000000
namespace Mine
/-- law's frame behind its tokens -/
structure LE (h₀ : Heap) (L : Addr) (h : Heap) (m : Str → Option Value) (aa wa fo : Addr) (wvs avs : List Value) (tks : List TK) (n1 n2 nf : Nat) (oc : Obj) (rest : List (Addr × Obj)) (ws : List Str) (ps : List (Int × Str)) (qs : List (Str × Int)) : Prop where
  F : Fr h₀ L h m
  N : News h₀ L h ((L + 1, oc) :: (wa, listOf wvs.toArray n1) :: (aa, listOf avs.toArray n2) :: (fo, listOf (tks.map fun t => Value.ref t.a).toArray nf) :: rest)
  hoc : oc.data = .cell (some (.ref wa))
  Dw : DatAll [] wvs (ws.map Dat.str)
  Da : DatAll rest avs (ps.map datPair)
  TA : TokAll rest tks qs
  am : m "asked" = some (.ref aa)
  tm : m "tokens" = some (.ref fo)
def gapsOf (ws : List Str) : List Int := 0 :: List.replicate (ws.length - 1) 1
section
variable {w : World} {A A₀ : Around} {s : Shared} {h₀ base : Heap} {L : Addr} {m mg mb : Str → Option Value} {news : List (Addr × Obj)} {mean : ExcName → Option Value} {p : Program} {loose : List Str} {outer : List Env} {R : Result → Shared → Prop}
theorem ints_dat : ∀ {vs : List Value} {ns : List Int}, IntsAre vs ns → DatAll [] vs (ns.map Dat.int)
  | _, _, .nil => .nil
  | _, _, .cons n t r => .cons (.int n t) (ints_dat r)
theorem gaps_eq (ws : List Str) (h : ws.length ≥ 1) : ([0] ++ (List.replicate ((ws.length : Int) - 1).toNat [(1 : Int)]).flatten) = gapsOf ws := by
  have e : ((ws.length : Int) - 1).toNat = ws.length - 1 := by omega
  rw [e]
  unfold gapsOf
  rw [List.singleton_append]
  congr 1
  induction ws.length - 1 with
  | zero => rfl
  | succ n ih => rw [List.replicate_succ, List.flatten_cons, ih, List.replicate_succ]; rfl
theorem gaps_len (ws : List Str) (h : ws.length ≥ 1) : ws.length = (gapsOf ws).length := by unfold gapsOf; rw [List.length_cons, List.length_replicate]; omega
theorem gaps_ok {ws : List Str} : ∀ g ∈ gapsOf ws, 0 ≤ g ∧ g ≤ 1 := by
  intro g hg
  rcases List.mem_cons.mp hg with rfl | hg
  · decide
  · rw [List.eq_of_mem_replicate hg]; decide
local macro_rules | `(tactic| walk_at "eval Call") => `(tactic| (k_here; k_dflt (refine Call_ ?_)))
local macro_rules | `(tactic| walk_at "call builtin:len") => `(tactic| (k_here; k_dflt ((rename News _ _ _ _ => kN); (rename DatAll [] _ _ => kD); (refine' words_len kN ?k1 kD ?k2 ?_); (case k1 => (repeat (first | exact .head _ | refine' .tail _ ?_))); (case k2 => omega); intro t' tk')))
local macro_rules | `(tactic| walk_at "call ref") => `(tactic| (k_here; k_dflt (refine hold_ ?_)))
theorem lb0_ {cd : Value × Addr} {sa : Addr} {oc : Obj} {Q : Flow → Shared → Prop}
    (X : (KF w.params).In h₀) (T : Top p loose mean mg mb h₀) (F : Fr h₀ L s.heap m) (N : News h₀ L s.heap [(L + 1, oc)]) (hoc : oc.data = .cell none) (sm : m "script" = some (.ref sa))
    (H : ∀ h' tk m' aa wa oc' n1 n2 rest', LF h₀ L h' m' sa aa wa [] [] n1 n2 oc' rest' [] [] → Q .next { s with heap := h', toks := tk }) :
    wpAny (model (RowW.prog (OpenRow.toRowW (OpenLaw.row PySem.Challenge.rw_bd0046_01))) w) (callerA.deeper (lEnv L cd)) (exec (lb 0) (lEnv L cd)) Q (fun _ _ => False) s := by
  have B := below_caller h₀
  have hA : (callerA.deeper (lEnv L cd)).frames = some (lEnv L cd :: []) := Around.frames_deeper B.stack
  conv => 
    arg 3
    arg 1
    whnf
  revert X; k_fill; intro X
  unfold lEnv at *
  rw [map_or (l := [("script", .ref sa)]) (m := m) (List.forall_mem_cons.mpr ⟨sm, List.forall_mem_nil _⟩)] at F
  k_steps
  (rename Fr _ _ _ _ => F9); (rename News _ _ _ _ => N9); (rename Obj.data _ = Data.cell (some _) => hc9); (rename _ ∧ _ ∧ @LT.lt Nat _ (L + 1) _ => l9); (rename _ ∧ @LT.lt Nat _ (L + 1) _ => l8); (rename @LT.lt Nat _ (L + 1) _ => l7)
  refine H _ _ _ _ _ _ 0 0 [] ⟨F9, fun q hq => N9 q ?_, hc9, .nil, .nil, (fun _ h => nomatch h), ?_, Nat.ne_of_lt l7, ?_, rfl, rfl⟩
  · rcases List.mem_cons.mp hq with rfl | hq
    · exact .tail _ (.tail _ (.tail _ (.head _)))
    rcases List.mem_cons.mp hq with rfl | hq
    · exact .tail _ (.tail _ (.head _))
    rcases List.mem_cons.mp hq with rfl | hq
    · exact .tail _ (.head _)
    · cases hq
  · intro q hq
    rw [List.mem_singleton.mp hq]
    exact Ne.symm (Nat.ne_of_lt l8.1)
  · intro q hq
    rw [List.mem_singleton.mp hq]
    exact Ne.symm (Nat.ne_of_lt l8.2)
theorem lb2_ {cd : Value × Addr} {sa wa aa : Addr} {oc : Obj} {wvs avs : List Value} {rest : List (Addr × Obj)} {n1 n2 : Nat} {ws : List Str} {ps : List (Int × Str)} {Q : Flow → Shared → Prop}
    (X : (KF w.params).In h₀) (T : Top p loose mean mg mb h₀) (hne : ws.length ≥ 1) (hw1 : ws.length ≤ 90) (hv : ∀ x ∈ ws, x ∈ vocab)
    (S : LF h₀ L s.heap m sa aa wa wvs avs n1 n2 oc rest ws ps)
    (H : ∀ h' tk m' fo tks nf rest', LE h₀ L h' m' aa wa fo wvs avs tks n1 n2 nf oc rest' ws ps (lay (ws.zip (gapsOf ws))).2 → Q .next { s with heap := h', toks := tk }) :
    wpAny (model (RowW.prog (OpenRow.toRowW (OpenLaw.row PySem.Challenge.rw_bd0046_01))) w) (callerA.deeper (lEnv L cd)) (exec (lb 2) (lEnv L cd)) Q (fun _ _ => False) s := by
  have B := below_caller h₀
  have hA : (callerA.deeper (lEnv L cd)).frames = some (lEnv L cd :: []) := Around.frames_deeper B.stack
  have hroom : (callerA.deeper (lEnv L cd)).depth + 40 < recursionLimit := by show callerA.depth + 1 + 40 < recursionLimit; decide +kernel
  obtain ⟨F, N, hoc, Dw, Da, ok, hwa, hcw, hco, sm, am⟩ := S
  conv => 
    arg 3
    arg 1
    whnf
  revert X; k_fill; intro X
  unfold lEnv at *
  rw [map_or (l := [("asked", .ref aa)]) (m := m) (List.forall_mem_cons.mpr ⟨am, List.forall_mem_nil _⟩)] at F
  k_steps
  (rename Fr _ _ _ _ => kF); (rename News _ _ _ _ => kN); (rename IntsAre _ _ => kI); (rename DatAll [] _ _ => kD)
  rw [gaps_eq _ hne] at kI
  refine' wpAny_call (tokens_call B kF X kN T hA rfl rfl hroom rfl ?k3 (.head _) kD (ints_dat kI) (gaps_len _ hne) hw1 hv gaps_ok ?_)
  case k3 => (repeat (first | exact .head _ | refine' .tail _ ?_))
  intro h' tk' fo' tks' n' rest' F' N' off' sub' TA'
  k_steps
  (rename Fr _ _ _ _ => F9); (rename News _ _ _ _ => N9); (rename Obj.data _ = Data.cell (some _) => hc9); (rename DatAll rest _ _ => kA)
  refine H _ _ _ fo' tks' n' rest' ⟨F9, fun q hq => N9 q ?_, hc9, kD, kA.mono (fun q hq => sub' q ?_), TA', rfl, rfl⟩
  · rcases List.mem_cons.mp hq with rfl | hq
    · exact .tail _ (sub' _ (by repeat (first | exact .head _ | refine' .tail _ ?_)))
    rcases List.mem_cons.mp hq with rfl | hq
    · exact .tail _ (sub' _ (by repeat (first | exact .head _ | refine' .tail _ ?_)))
    rcases List.mem_cons.mp hq with rfl | hq
    · exact .tail _ (sub' _ (by repeat (first | exact .head _ | refine' .tail _ ?_)))
    · exact hq
  · repeat (first | exact hq | refine List.mem_cons_of_mem _ ?_)
/-- lb 3: due = [] -/
theorem lb3_ {cd : Value × Addr} {wa aa fo : Addr} {oc : Obj} {wvs avs : List Value} {tks : List TK} {rest : List (Addr × Obj)} {n1 n2 nf : Nat} {ws : List Str} {ps : List (Int × Str)} {qs : List (Str × Int)} {Q : Flow → Shared → Prop}
    (X : (KF w.params).In h₀) (T : Top p loose mean mg mb h₀)
    (S : LE h₀ L s.heap m aa wa fo wvs avs tks n1 n2 nf oc rest ws ps qs)
    (H : ∀ h' tk m' du, LE h₀ L h' m' aa wa fo wvs avs tks n1 n2 nf oc rest ws ps qs → News h₀ L h' [(du, listOf #[] 0)] → (∀ q ∈ ((L + 1, oc) :: (wa, listOf wvs.toArray n1) :: (aa, listOf avs.toArray n2) :: (fo, listOf (tks.map fun t => Value.ref t.a).toArray nf) :: rest), q.1 < du) → m' "due" = some (.ref du) → Q .next { s with heap := h', toks := tk }) :
    wpAny (model (RowW.prog (OpenRow.toRowW (OpenLaw.row PySem.Challenge.rw_bd0046_01))) w) (callerA.deeper (lEnv L cd)) (exec (lb 3) (lEnv L cd)) Q (fun _ _ => False) s := by
  have B := below_caller h₀
  have hA : (callerA.deeper (lEnv L cd)).frames = some (lEnv L cd :: []) := Around.frames_deeper B.stack
  obtain ⟨F, N, hoc, Dw, Da, TA, am, tm⟩ := S
  conv => 
    arg 3
    arg 1
    whnf
  revert X; k_fill; intro X
  unfold lEnv at *
  rw [map_or (l := [("asked", .ref aa), ("tokens", .ref fo)]) (m := m) (List.forall_mem_cons.mpr ⟨am, List.forall_mem_cons.mpr ⟨tm, List.forall_mem_nil _⟩⟩)] at F
  k_steps
  (rename Fr _ _ _ _ => F9); (rename News _ _ _ _ => N9)
  (rename @LT.lt Nat _ (L + 1) _ ∧ _ => l9); (rename Obj.data _ = Data.cell (some _) => hc9); (rename DatAll rest _ _ => kA); (rename DatAll [] _ _ => kD); (rename TokAll _ _ _ => kT)
  refine H _ _ _ _ ⟨F9, fun q hq => N9 q (.tail _ hq), hc9, kD, kA, kT, rfl, rfl⟩ (fun q hq => N9 q ?_) (ktn_ltOf l9) rfl
  rw [List.mem_singleton.mp hq]
  exact .head _
end
end Mine

end
section
open PySem PySem.W PyProof.Rows PySem.Calls Builtin
set_option maxHeartbeats 16000000
namespace Mine
def db (n : Nat) : Stmt := (forBody (lb 4)).getD n default
section
variable {w : World} {A A₀ : Around} {s : Shared} {h₀ base : Heap} {L : Addr} {m mg mb : Str → Option Value} {news : List (Addr × Obj)} {mean : ExcName → Option Value} {p : Program} {loose : List Str} {outer : List Env} {R : Result → Shared → Prop}
theorem news_pick2 {h : Heap} {a b c : Addr × Obj} {rest : List (Addr × Obj)} (N : News h₀ L h (a :: b :: c :: rest)) : News h₀ L h (c :: a :: rest) := fun q hq => by
  rcases List.mem_cons.mp hq with rfl | hq
  · exact N _ (.tail _ (.tail _ (.head _)))
  rcases List.mem_cons.mp hq with rfl | hq
  · exact N _ (.head _)
  · exact N _ (.tail _ (.tail _ (.tail _ hq)))
theorem fo_item {value slice : Expr} {k : Int} {u : Tok} {fo : Addr} {tks : List TK} {nf : Nat} {E : Value → Shared → Prop} {Q : Value → Shared → Prop} (N : News h₀ L s.heap news) (hm : (fo, listOf (tks.map fun t => Value.ref t.a).toArray nf) ∈ news) (few : tks.length ≤ 1000) (h0 : 0 ≤ k) (h1 : k < tks.length)
    (h : ∀ t, tks[k.toNat]? = some t → t ∈ tks → Q (.ref t.a) s)
    (hs : subscripted slice false (.ref fo) (.int k u) = operate [.ref fo, .int k u] (getItem (.ref fo) (.int k u)) := by with_unfolding_all rfl) :
    wpAny (model (RowW.prog (OpenRow.toRowW (OpenLaw.row PySem.Challenge.rw_bd0046_01))) w) A (subscriptTail value slice (.ref fo) (.int k u)) Q E s := by
  have hlt : k.toNat < tks.length := by omega
  have hl : s.heap.IsList fo (tks.map fun t => Value.ref t.a).toArray := ⟨_, (N _ hm).1, rfl, nf, rfl⟩
  exact tail_any hl.typeIs slot_list_getitem.lookup (wpAny_getItem_list hl h0 (by omega) (x := .ref (tks[k.toNat]).a) (by simp [hlt]) (h _ (List.getElem?_eq_getElem hlt) (List.getElem_mem hlt))) hs
theorem fo_start {value slice : Expr} {u : Tok} {t : TK} {tks : List TK} {qs : List (Str × Int)} {rest : List (Addr × Obj)} {E : Value → Shared → Prop} {Q : Value → Shared → Prop} (F : Fr h₀ L s.heap m) (N : News h₀ L s.heap news) (X : (KF w.params).In h₀) (TA : TokAll rest tks qs) (hr : ∀ q ∈ rest, q ∈ news) (ht : t ∈ tks) (h : Q t.sv s)
    (hs : subscripted slice false (.ref t.a) (.int 2 u) = operate [.ref t.a, .int 2 u] (getItem (.ref t.a) (.int 2 u)) := by with_unfolding_all rfl) :
    wpAny (model (RowW.prog (OpenRow.toRowW (OpenLaw.row PySem.Challenge.rw_bd0046_01))) w) A (subscriptTail value slice (.ref t.a) (.int 2 u)) Q E s := by
  obtain ⟨p, -, e, d, v, t1, en, ln, st, t6, t7, e1, m1, m2⟩ := TA.mem ht
  rw [e1] at h
  exact tok_sub (X.keeps F.keep) (N _ (hr _ m1)).1 (by decide) (by decide) rfl h hs
local macro_rules | `(tactic| walk_at "eval Call") => `(tactic| (k_here; k_dflt (refine Call_ ?_)))
local macro_rules | `(tactic| walk_at "subscriptTail") => `(tactic| (k_here; k_dflt ((rename Fr _ _ _ _ => kF); (rename News _ _ _ _ => kN); (rename Frag.In _ _ => kX); (rename DatAll _ _ _ => kD); (rename TokAll _ _ _ => kT); first
  | ((refine' nm_item kN ?k0 kD ?k1 ?k2 ?k3 ?_ ?k4); (case k0 => (repeat (first | exact .head _ | refine' .tail _ ?_))); (case k1 => omega); (case k2 => omega); (case k3 => omega); (case k4 => with_unfolding_all rfl); intro x' t' hk' hx')
  | ((refine' fo_item kN ?k0 ?k1 ?k2 ?k3 ?_ ?k4); (case k0 => (repeat (first | exact .head _ | refine' .tail _ ?_))); (case k1 => omega); (case k2 => omega); (case k3 => omega); (case k4 => with_unfolding_all rfl); intro tq' tq1' tq2')
  | ((refine' fo_start kF kN kX kT ?k0 (by with_reducible assumption) ?_ ?k4); (case k0 => (intro q hq; (repeat (first | exact hq | refine List.mem_cons_of_mem _ ?_)))); (case k4 => with_unfolding_all rfl)))))
local macro_rules | `(tactic| walk_at "call builtin:list.append") => `(tactic| (k_here; k_dflt (refine hold_ ?_)))
theorem d_turn {cd : Value × Addr} {wa fo du : Addr} {oc : Obj} {wvs dvs : List Value} {tks : List TK} {rest : List (Addr × Obj)} {n1 nf nd : Nat} {ws : List Str} {qs : List (Str × Int)} {k : Int} {tx : Str} {t1 t2 : Tok} {Q : Flow → Shared → Prop}
    (X : (KF w.params).In h₀) (T : Top p loose mean mg mb h₀) (F : Fr h₀ L s.heap m) (hm : ∀ q ∈ ([("spot", .int k t1), ("text", .str tx t2), ("tokens", .ref fo), ("due", .ref du)] : List (Str × Value)), m q.1 = some q.2)
    (N : News h₀ L s.heap ((du, listOf dvs.toArray nd) :: (L + 1, oc) :: (wa, listOf wvs.toArray n1) :: (fo, listOf (tks.map fun t => Value.ref t.a).toArray nf) :: rest)) (hoc : oc.data = .cell (some (.ref wa)))
    (hoff : ∀ q ∈ ((L + 1, oc) :: (wa, listOf wvs.toArray n1) :: (fo, listOf (tks.map fun t => Value.ref t.a).toArray nf) :: rest), q.1 ≠ du)
    (Dw : DatAll [] wvs (ws.map Dat.str)) (TA : TokAll rest tks qs) (h0 : 0 ≤ k) (h1 : k < ws.length) (hl : tks.length = ws.length) (few : ws.length ≤ 90) (hlw : ∀ x ∈ ws, x.length ≤ 20) (htx : tx.length ≤ 100) (fewd : dvs.length ≤ 90)
    (H0 : ∀ h' tk m' x, ws[k.toNat]? = some x → avoid x = false → Fr h₀ L h' m' → News h₀ L h' ((du, listOf dvs.toArray nd) :: (L + 1, oc) :: (wa, listOf wvs.toArray n1) :: (fo, listOf (tks.map fun t => Value.ref t.a).toArray nf) :: rest) → m' "tokens" = some (.ref fo) → m' "due" = some (.ref du) → Q .next { s with heap := h', toks := tk })
    (H1 : ∀ h' tk m' x t D t', ws[k.toNat]? = some x → tks[k.toNat]? = some t → avoid x = true → Fr h₀ L h' m' → News h₀ L h' ((du, listOf (dvs ++ [Value.ref D]).toArray (nd + 1)) :: (D, { cls := .type "tuple", data := .seq #[t.sv, .str (msg tx x) t'] }) :: (L + 1, oc) :: (wa, listOf wvs.toArray n1) :: (fo, listOf (tks.map fun t => Value.ref t.a).toArray nf) :: rest) →
      @Ne Nat D du → (∀ q ∈ rest, q.1 < D) → m' "tokens" = some (.ref fo) → m' "due" = some (.ref du) → Q .next { s with heap := h', toks := tk }) :
    wpAny (model (RowW.prog (OpenRow.toRowW (OpenLaw.row PySem.Challenge.rw_bd0046_01))) w) (callerA.deeper (lEnv L cd)) (exec (db 0) (lEnv L cd)) Q (fun _ _ => False) s := by
  have B := below_caller h₀
  have hA : (callerA.deeper (lEnv L cd)).frames = some (lEnv L cd :: []) := Around.frames_deeper B.stack
  conv => 
    arg 3
    arg 1
    whnf
  revert X; k_fill; intro X
  unfold lEnv at *
  rw [map_or hm] at F
  clear hm
  k_steps
  all_goals (try exact trivial)
  · (rename _ ∈ ws => hx9)
    have hz9 := hlw _ hx9
    k_steps
    (rename Fr _ _ _ _ => F9); (rename News _ _ _ _ => N9); (rename ws[k.toNat]? = some _ => e2); revert e2; (rename ws[k.toNat]? = some _ => e1); intro e2; (rename tks[k.toNat]? = some _ => e3); (rename List.any _ _ = true => ha)
    (rename _ ∧ _ ∧ _ ∧ _ ∧ _ ∧ AllLt _ _ => l9); (rename _ ∧ _ ∧ _ ∧ _ ∧ AllLt _ _ => l8)
    unfold Hold
    refine' append_K F9 N9 (.tail ?a1 (.tail ?a2 (.head ?b))) ?_ ?z
    case a1 => exact Ne.symm (Nat.ne_of_lt l9.2.1)
    case a2 => exact Ne.symm (Nat.ne_of_lt l8.1)
    case b => exact hoff
    case z => (rw [List.size_toArray]; exact Nat.le_trans fewd (by decide))
    intro h8 F8 N8
    rw [List.push_toArray] at N8
    k_steps
    have e := Option.some.inj (e1.symm.trans e2)
    subst e
    exact H1 _ _ _ _ _ _ _ e1 e3 ha F8 (news_pick2 N8) (Ne.symm (Nat.ne_of_lt l9.2.1)) (ktn_ltOf l9.2.2.2.2.2) rfl rfl
  · (rename Fr _ _ _ _ => F9); (rename News _ _ _ _ => N9); (rename ws[k.toNat]? = some _ => e1); (rename List.any _ _ = false => ha)
    exact H0 _ _ _ _ e1 ha F9 (fun q hq => N9 q (.tail _ hq)) rfl rfl
end
end Mine

end
section
open PySem PySem.W PyProof.Rows PySem.Calls Builtin
set_option maxHeartbeats 16000000
namespace Mine
def dueDs (ws : List Str) (qs : List (Str × Int)) (ps : List (Int × Str)) : List Dat :=
  (ps.filter fun p => avoid (ws.getD p.1.toNat "")).map fun p => Dat.tuple [.tuple [.int 2, .int (qs.getD p.1.toNat ("", 0)).2], .str (msg p.2 (ws.getD p.1.toNat ""))]
theorem lb4_eq : ∃ p1 p2 x pt q, lb 4 = .For (.Tuple [.Name "spot" p1, .Name "text" p2] x pt) (forIter (lb 4)) [db 0] [] q := ⟨_, _, _, _, _, rfl⟩
theorem TokAll.at {N : List (Addr × Obj)} {t : TK} : ∀ {ts : List TK} {ps : List (Str × Int)} {k : Nat}, TokAll N ts ps → ts[k]? = some t → TokOk N t (ps.getD k ("", 0))
  | [], _, _, _, h => by simp at h
  | _ :: _, [], _, h, _ => (show False from h).elim
  | a :: ts, q :: ps, 0, ⟨x, _⟩, h => by cases h; exact x
  | a :: ts, q :: ps, k + 1, ⟨_, y⟩, h => by simpa using TokAll.at y h
section
variable {w : World} {A A₀ : Around} {s : Shared} {h₀ base : Heap} {L : Addr} {m mg mb : Str → Option Value} {news : List (Addr × Obj)} {mean : ExcName → Option Value} {p : Program} {loose : List Str} {outer : List Env} {R : Result → Shared → Prop}
theorem d_iter {cd : Value × Addr} {aa : Addr} {E : Value → Shared → Prop} {Q : Value → Shared → Prop}
    (X : (KF w.params).In h₀) (T : Top p loose mean mg mb h₀) (F : Fr h₀ L s.heap m) (hm : m "asked" = some (.ref aa))
    (H : Q (.ref aa) s) : wpAny (model (RowW.prog (OpenRow.toRowW (OpenLaw.row PySem.Challenge.rw_bd0046_01))) w) (callerA.deeper (lEnv L cd)) (eval (forIter (lb 4)) (lEnv L cd)) Q E s := by
  conv => 
    arg 3
    arg 1
    whnf
  revert X; k_fill; intro X
  unfold lEnv at *
  rw [map_or (l := [("asked", .ref aa)]) (m := m) (List.forall_mem_cons.mpr ⟨hm, List.forall_mem_nil _⟩)] at F
  k_steps
  exact H
inductive DJ (du fo : Addr) (bs : List (Addr × Obj)) (ws : List Str) (qs : List (Str × Int)) (ps : List (Int × Str)) (i : Nat) (m : Str → Option Value) : List (Addr × Obj) → Prop
  | mk {dvs : List Value} {nd : Nat} {extra : List (Addr × Obj)} (hx : ∀ q ∈ extra, q.1 ≠ du) (D : DatAll (extra ++ bs) dvs (dueDs ws qs (ps.take i))) (tm : m "tokens" = some (.ref fo)) (dm : m "due" = some (.ref du)) :
      DJ du fo bs ws qs ps i m ((du, listOf dvs.toArray nd) :: (extra ++ bs))
theorem dat_pair_at {N : List (Addr × Obj)} {vs : List Value} {ps : List (Int × Str)} {i : Nat} {v : Value} (D : DatAll N vs (ps.map datPair)) (h : vs[i]? = some v) :
    ∃ a q t1 t2 k, ps[i]? = some q ∧ v = .ref a ∧ (a, ({ cls := .type "tuple", data := .seq #[.int q.1 t1, .str q.2 t2] k } : Obj)) ∈ N := by
  obtain ⟨q, e, d⟩ := datAll_at D h
  obtain ⟨a, v0, v1, k, rfl, hm, d0, d1⟩ := datIn_tup2 d
  obtain ⟨t1, rfl⟩ := datIn_int d0
  obtain ⟨t2, rfl⟩ := datIn_str d1
  exact ⟨a, q, t1, t2, k, e, rfl, hm⟩
theorem dueDs_no {ws : List Str} {qs : List (Str × Int)} {ps : List (Int × Str)} {i : Nat} {q : Int × Str} {x : Str} (e : ps[i]? = some q) (ew : ws[q.1.toNat]? = some x) (h : avoid x = false) : dueDs ws qs (ps.take (i + 1)) = dueDs ws qs (ps.take i) := by
  rw [take_snoc e]
  unfold dueDs
  rw [List.filter_append, List.map_append]
  have : avoid (ws.getD q.1.toNat "") = false := by rw [List.getD_eq_getElem?_getD, ew]; exact h
  have z : List.filter (fun p : Int × Str => avoid (ws.getD p.1.toNat "")) [q] = [] := by rw [List.filter_cons, if_neg (by rw [this]; decide)]; rfl
  rw [z]; exact List.append_nil _
theorem dueDs_yes {ws : List Str} {qs : List (Str × Int)} {ps : List (Int × Str)} {i : Nat} {q : Int × Str} {x : Str} (e : ps[i]? = some q) (ew : ws[q.1.toNat]? = some x) (h : avoid x = true) :
    dueDs ws qs (ps.take (i + 1)) = dueDs ws qs (ps.take i) ++ [Dat.tuple [.tuple [.int 2, .int (qs.getD q.1.toNat ("", 0)).2], .str (msg q.2 x)]] := by
  rw [take_snoc e]
  unfold dueDs
  rw [List.filter_append, List.map_append]
  have e2 : ws.getD q.1.toNat "" = x := by rw [List.getD_eq_getElem?_getD, ew]; rfl
  have z : List.filter (fun p : Int × Str => avoid (ws.getD p.1.toNat "")) [q] = [q] := by rw [List.filter_cons, if_pos (by rw [e2]; exact h)]; rfl
  rw [z, List.map_cons, List.map_nil, e2]
theorem dueDs_len {ws : List Str} {qs : List (Str × Int)} {ps : List (Int × Str)} (i : Nat) : (dueDs ws qs (ps.take i)).length ≤ ps.length := by
  unfold dueDs
  rw [List.length_map]
  exact Nat.le_trans (List.length_filter_le _ _) (by rw [List.length_take]; exact Nat.min_le_right _ _)
theorem sub4 {a b c d : Addr × Obj} {extra rest own : List (Addr × Obj)} {q : Addr × Obj} : ∀ r ∈ q :: a :: b :: d :: (extra ++ (a :: b :: c :: d :: rest) ++ own), r ∈ own ++ q :: (extra ++ a :: b :: c :: d :: rest) := fun r hr => by
  simp only [List.mem_cons, List.mem_append] at hr ⊢
  rcases hr with h | h | h | h | (h | h) | h
  · exact .inr (.inl h)
  · exact .inr (.inr (.inr (.inl h)))
  · exact .inr (.inr (.inr (.inr (.inl h))))
  · exact .inr (.inr (.inr (.inr (.inr (.inr (.inl h))))))
  · exact .inr (.inr (.inl h))
  · exact .inr (.inr (.inr h))
  · exact .inl h
theorem back4 {a b d q : Addr × Obj} {es own : List (Addr × Obj)} {h : Heap} (N : News h₀ L h (q :: a :: b :: d :: (es ++ own))) : News h₀ L h (own ++ q :: es) := fun r hr => N r (by
  simp only [List.mem_cons, List.mem_append] at hr ⊢
  rcases hr with h | h | h
  · exact .inr (.inr (.inr (.inr (.inr h))))
  · exact .inl h
  · exact .inr (.inr (.inr (.inr (.inl h)))))
theorem back5 {a b d q t : Addr × Obj} {es own : List (Addr × Obj)} {h : Heap} (N : News h₀ L h (q :: t :: a :: b :: d :: (es ++ own))) : News h₀ L h (own ++ q :: t :: es) := fun r hr => N r (by
  simp only [List.mem_cons, List.mem_append] at hr ⊢
  rcases hr with h | h | h | h
  · exact .inr (.inr (.inr (.inr (.inr (.inr h)))))
  · exact .inl h
  · exact .inr (.inl h)
  · exact .inr (.inr (.inr (.inr (.inr (.inl h))))))
theorem lb4_ {cd : Value × Addr} {wa aa fo du : Addr} {oc : Obj} {wvs avs : List Value} {tks : List TK} {rest bs : List (Addr × Obj)} {n1 n2 nf : Nat} {ws : List Str} {ps : List (Int × Str)} {qs : List (Str × Int)} {Q : Flow → Shared → Prop}
    (X : (KF w.params).In h₀) (T : Top p loose mean mg mb h₀)
    (S : LE h₀ L s.heap m aa wa fo wvs avs tks n1 n2 nf oc rest ws ps qs) (hbs : bs = ((L + 1, oc) :: (wa, listOf wvs.toArray n1) :: (aa, listOf avs.toArray n2) :: (fo, listOf (tks.map fun t => Value.ref t.a).toArray nf) :: rest))
    (hdu : News h₀ L s.heap [(du, listOf #[] 0)]) (hlt : ∀ q ∈ bs, q.1 < du) (dm : m "due" = some (.ref du))
    (hps : ∀ p ∈ ps, 0 ≤ p.1 ∧ p.1 < ws.length ∧ p.2.length ≤ 100) (hl : tks.length = ws.length) (few : ws.length ≤ 90) (hlw : ∀ x ∈ ws, x.length ≤ 20) (fewp : ps.length ≤ 90)
    (H : ∀ h' tk m' dvs nd extra, Fr h₀ L h' m' → News h₀ L h' ((du, listOf dvs.toArray nd) :: (extra ++ bs)) → DatAll (extra ++ bs) dvs (dueDs ws qs ps) → m' "tokens" = some (.ref fo) → m' "due" = some (.ref du) → Q .next { s with heap := h', toks := tk }) :
    wpAny (model (RowW.prog (OpenRow.toRowW (OpenLaw.row PySem.Challenge.rw_bd0046_01))) w) (callerA.deeper (lEnv L cd)) (exec (lb 4) (lEnv L cd)) Q (fun _ _ => False) s := by
  obtain ⟨F, N, hoc, Dw, Da, TA, am, tm⟩ := S
  obtain ⟨p1, p2, x, pt, q, e⟩ := lb4_eq
  rw [e]
  refine wpAny_For ?_
  refine d_iter X T F am ?_
  clear e am
  have lav := Da.length
  rw [List.length_map] at lav
  have ma : (aa, listOf avs.toArray n2) ∈ bs := by rw [hbs]; exact .tail _ (.tail _ (.head _))
  have sub : ∀ q ∈ rest, q ∈ bs := fun q hq => by rw [hbs]; exact .tail _ (.tail _ (.tail _ (.tail _ hq)))
  have N1 : News h₀ L s.heap ((du, listOf ([] : List Value).toArray 0) :: ([] ++ bs)) := allC (hdu _ (.head _)) (by rw [hbs]; exact N)
  have offb : ∀ r ∈ bs, r.1 ≠ du := fun r hr => Nat.ne_of_lt (hlt r hr)
  refine pair_iter (env := lEnv L cd) (P := fun i v0 v1 => ∃ q t1 t2, ps[i]? = some q ∧ v0 = .int q.1 t1 ∧ v1 = .str q.2 t2) (J := DJ du fo bs ws qs ps) rfl rfl rfl rfl F N1 (.tail _ ma) (DJ.mk (dvs := []) (extra := []) (fun _ h => nomatch h) .nil tm dm) ?_ ?_ ?_
  · rintro i m n v ⟨-, -, -, -⟩ hv
    obtain ⟨a, q, t1, t2, k, eq, rfl, hmem⟩ := dat_pair_at Da hv
    exact ⟨_, _, _, _, rfl, .tail _ (List.mem_append_right _ (sub _ hmem)), q, _, _, eq, rfl, rfl⟩
  · rintro I i v0 v1 m₁ news₁ h₁ tk₁ own hI hi ⟨q, t1, t2, eq, rfl, rfl⟩ ⟨hx, DD, tm1, dm1⟩ hown ⟨oI, hoI⟩ hnw F₁ N₁
    rename_i dvs nd extra
    obtain ⟨b1, b2, b3⟩ := hps q (List.mem_of_getElem? eq)
    have ldu : @LT.lt Nat _ du I := hI _ (.head _)
    have N6 : News h₀ L h₁ ((du, listOf dvs.toArray nd) :: (L + 1, oc) :: (wa, listOf wvs.toArray n1) :: (fo, listOf (tks.map fun t => Value.ref t.a).toArray nf) :: (extra ++ bs ++ own)) := fun r hr => N₁ r (by subst hbs; exact sub4 r hr)
    have offa := allA (allA hx offb) (own_off hown (Ne.symm (Nat.ne_of_lt ldu)) (offb _ ma))
    have offs : ∀ r ∈ ((L + 1, oc) :: (wa, listOf wvs.toArray n1) :: (fo, listOf (tks.map fun t => Value.ref t.a).toArray nf) :: (extra ++ bs ++ own)), r.1 ≠ du :=
      all2 (offb _ (by rw [hbs]; exact .head _)) (offb _ (by rw [hbs]; exact .tail _ (.head _))) (allC (offb _ (by rw [hbs]; exact .tail _ (.tail _ (.tail _ (.head _))))) offa)
    refine wpAny_execs_cons (wpAny_mono (d_turn (Q := fun f s' => f = .next ∧ PairStep h₀ L I own (DJ du fo bs ws qs ps (i + 1)) s .next s') (k := q.1) (tx := q.2) (t1 := t1) (t2 := t2) (wa := wa) (fo := fo) (du := du) (dvs := dvs) (nd := nd) (ws := ws) (qs := qs)
      X T F₁ (set2 (l := [("tokens", .ref fo), ("due", .ref du)]) (by decide) rfl (List.forall_mem_cons.mpr ⟨tm1, List.forall_mem_cons.mpr ⟨dm1, List.forall_mem_nil _⟩⟩)) N6 hoc offs Dw (TA.mono fun r hr => List.mem_append_left _ (List.mem_append_right _ (sub r hr))) b1 b2 hl few hlw b3 (Nat.le_trans (Nat.le_of_eq DD.length) (Nat.le_trans (dueDs_len i) fewp)) ?_ ?_) (fun f s1 h1 => by obtain ⟨rfl, h1⟩ := h1; exact wpAny_execs_nil h1) fun _ _ z => z)
    · intro h6 tk6 m6 x6 ex hx6 F6 N6' tm6 dm6
      exact ⟨rfl, rfl, h6, tk6, m6, _, rfl, F6, back4 N6', hnw, DJ.mk hx (dueDs_no eq ex hx6 ▸ DD) tm6 dm6⟩
    · intro h6 tk6 m6 x6 t9 D6 t6 ex et hx6 F6 N6' nD lD tm6 dm6
      have nI : D6 ≠ I := Ne.symm (Nat.ne_of_lt (lD _ (List.mem_append_right _ hoI)))
      obtain ⟨te, d9, v9, t19, en9, ln9, st9, t69, t79, esv, mt1, mt2⟩ := TA.at et
      refine ⟨rfl, rfl, h6, tk6, m6, _, rfl, F6, back5 N6', allC (Nat.ne_of_lt ldu) (allC nI fun r hr => hnw _ (.tail _ hr)), ?_⟩
      refine DJ.mk (extra := _ :: extra) (allC nD hx) ?_ tm6 dm6
      rw [dueDs_yes eq ex hx6]
      refine (DD.mono fun r hr => .tail _ hr).append (.cons (.tuple (.head _) (.cons ?_ (.cons (.str _ _) .nil))) .nil)
      rw [esv]
      exact .tuple (.tail _ (List.mem_append_right _ (sub _ mt2))) (.cons (.int _ _) (.cons (.int _ _) .nil))
  · rintro h' tk m' news' F' N' ⟨hx, DD, tm1, dm1⟩
    rw [lav, List.take_length] at DD
    exact H _ _ _ _ _ _ F' N' DD tm1 dm1
end
end Mine

end
section
open PySem PySem.W PyProof.Rows PySem.Calls Builtin
set_option maxHeartbeats 16000000
namespace Mine
section
variable {w : World} {A A₀ : Around} {s : Shared} {h₀ base : Heap} {L : Addr} {m mg mb : Str → Option Value} {news : List (Addr × Obj)} {mean : ExcName → Option Value} {p : Program} {loose : List Str} {outer : List Env} {R : Result → Shared → Prop}
local macro_rules | `(tactic| walk_at "eval Call") => `(tactic| (k_here; k_dflt (refine Call_ ?_)))
local macro_rules | `(tactic| walk_at "call ref") => `(tactic| (k_here; k_dflt (refine hold_ ?_)))
local macro_rules | `(tactic| walk_at "call type:list") => `(tactic| (k_here; k_dflt (refine hold_ ?_)))
local macro_rules | `(tactic| walk_at "compareOp Eq") => `(tactic| (k_here; k_dflt (refine hold_ ?_)))
theorem outs_read {h : Heap} {L' : Addr} {sv : Nat → Value} {ws : List Str} {qs : List (Str × Int)} : ∀ (l : List (Int × Str)) {vs : List Value}, AllTup L' h vs (l.map fun p => (sv p.1.toNat, msg p.2 (ws.getD p.1.toNat ""))) →
    (∀ p ∈ l, ∃ st t6 t7, sv p.1.toNat = .ref st ∧ h.get? st = some { cls := .type "tuple", data := .seq #[.int 2 t6, .int (qs.getD p.1.toNat ("", 0)).2 t7] }) →
    ∃ as, ReadsAll h vs (kqdPs (l.map fun p => Dat.tuple [.tuple [.int 2, .int (qs.getD p.1.toNat ("", 0)).2], .str (msg p.2 (ws.getD p.1.toNat ""))])) as
  | [], [], _, _ => ⟨_, .nil⟩
  | [], _ :: _, h, _ => (show False from h).elim
  | _ :: _, [], h, _ => (show False from h).elim
  | p :: l, v :: vs, hh, hs => by
    obtain ⟨⟨D, t', rfl, _, hD⟩, hr⟩ := hh
    obtain ⟨as, ra⟩ := outs_read l hr fun q hq => hs q (.tail _ hq)
    obtain ⟨st, t6, t7, e, hst⟩ := hs p (.head _)
    have r1 : Reads h (sv p.1.toNat) (.tuple [.int 2, .int (qs.getD p.1.toNat ("", 0)).2]) _ := e ▸ reads_tuple_at hst rfl rfl (.cons (.int _ _) (.cons (.int _ _) .nil))
    exact ⟨_, .cons (reads_tuple_at hD rfl rfl (.cons r1 (.cons (.str _ _) .nil))) ra⟩
theorem lb5_ {cd : Value × Addr} {fo du : Addr} {dvs : List Value} {tks : List TK} {rest extra bs : List (Addr × Obj)} {nd : Nat} {ws : List Str} {ps : List (Int × Str)} {qs : List (Str × Int)} {Q : Flow → Shared → Prop}
    (X : (KF w.params).In h₀) (T : Top p loose mean mg mb h₀) (F : Fr h₀ L s.heap m) (N : News h₀ L s.heap ((du, listOf dvs.toArray nd) :: (extra ++ bs))) (DD : DatAll (extra ++ bs) dvs (dueDs ws qs ps))
    (tm : m "tokens" = some (.ref fo)) (dm : m "due" = some (.ref du)) (hAB : AllBare s.gens)
    {t0 : TK} {tr : List TK} {sv : Nat → Value} (Y : ToksIn s.heap fo tks) (hdt : tks = t0 :: tr) (hrun : grun none false 0 t0.text t0.sv tr = exps sv ws ps) (hsz : (exps sv ws ps).length < sizeLine)
    (hsv : ∀ p ∈ ps.filter (fun p => avoid (ws.getD p.1.toNat "")), ∃ st t6 t7, sv p.1.toNat = .ref st ∧ s.heap.get? st = some { cls := .type "tuple", data := .seq #[.int 2 t6, .int (qs.getD p.1.toNat ("", 0)).2 t7] })
    (hok : ∀ d ∈ dueDs ws qs ps, kqdOk 8 d = true)
    (H : ∀ h' gens' dr tk m', AllBare gens' → Fr h₀ L h' m' → Q (.ret (.bool true)) { heap := h', gens := gens', drawn := dr, toks := tk, os := s.os }) :
    wpAny (model (RowW.prog (OpenRow.toRowW (OpenLaw.row PySem.Challenge.rw_bd0046_01))) w) (callerA.deeper (lEnv L cd)) (exec (lb 5) (lEnv L cd)) Q (fun _ _ => False) s := by
  have B := below_caller h₀
  have hA : (callerA.deeper (lEnv L cd)).frames = some (lEnv L cd :: []) := Around.frames_deeper B.stack
  conv => 
    arg 3
    arg 1
    whnf
  revert X; k_fill; intro X
  unfold lEnv at *
  rw [map_or (l := [("tokens", .ref fo), ("due", .ref du)]) (m := m) (List.forall_mem_cons.mpr ⟨tm, List.forall_mem_cons.mpr ⟨dm, List.forall_mem_nil _⟩⟩)] at F
  k_steps
  unfold Hold
  refine wpAny_call (gen_call F X N T (by show callerA.depth + 1 < recursionLimit; decide +kernel) hAB fun h1 tk1 ga L1 F1 N1 G => ?_)
  k_steps
  unfold Hold
  refine list_call (h₀ := h₀) G rfl (by show callerA.depth + 1 < recursionLimit; decide +kernel) X T F.keep Y hdt (by rw [hrun]; exact hsz) fun h2 gens2 dr2 tk2 vs D c' hk hD gD AT AB => ?_
  rw [hrun] at AT
  have F2 := F.keeps hk
  have N2 := N.keepsAll hk
  clear F F1 N N1
  k_steps
  unfold Hold
  obtain ⟨as, ra⟩ := outs_read (ps.filter fun p => avoid (ws.getD p.1.toNat "")) (qs := qs) AT fun p hp => by
    obtain ⟨st, t6, t7, e1, e2⟩ := hsv p hp
    exact ⟨st, t6, t7, e1, hk _ _ e2⟩
  have ra : ReadsAll h2 vs (kqdPs (dueDs ws qs ps)) as := ra
  obtain ⟨bs', rb⟩ := kqd_all N2 8 (DD.mono fun q hq => .tail _ hq) hok
  have la := kqd_lay 9 (.list (dueDs ws qs ps)) (by simpa [kqdOk] using hok)
  rw [kqdP] at la
  have e : PyData.eqv (.list (kqdPs (dueDs ws qs ps))) (.list (kqdPs (dueDs ws qs ps))) = true := by
    have q := kqd_eqv 9 (.list (dueDs ws qs ps)) (.list (dueDs ws qs ps)) 9 (by simpa [kqdOk] using hok) (by simpa [kqdOk] using hok)
    rw [kqdP] at q
    exact q.mpr rfl
  have hsh : SeqAt.shaped (.list (kqdPs (dueDs ws qs ps))) = true := by
    unfold SeqAt.shaped; rw [la.1, Bool.true_and]; exact decide_eq_true (Nat.le_trans la.2 (by decide))
  refine eq_dataH (reads_list_at hD rfl rfl ra) (reads_list_at (N2 _ (.head _)).1 rfl rfl rb) hsh hsh (by show callerA.units + 3 + 64 < cLine; decide +kernel) ?_
  rw [e]
  exact H _ _ _ _ _ AB F2
end
end Mine

end
section
open PySem PySem.W PyProof.Rows PySem.Calls
set_option maxHeartbeats 16000000
namespace Mine
/-! the plain law, all statements -/
def joinW : List (Nat × Str × Str) → List Str
  | [] => []
  | [q] => stWords q.1 q.2.1 q.2.2
  | q :: r :: l => stWords q.1 q.2.1 q.2.2 ++ ((";" : Str) :: joinW (r :: l))
def joinP : List (Nat × Str × Str) → List (Int × Str)
  | [] => []
  | [q] => stPairs q.1
  | q :: r :: l => stPairs q.1 ++ shift ((stWords q.1 q.2.1 q.2.2).length + 1) (joinP (r :: l))
theorem stWords_ne (k : Nat) (x y : Str) : stWords k x y ≠ [] := by unfold stWords; split <;> simp
theorem joinW_ne (q : Nat × Str × Str) (l : List (Nat × Str × Str)) : joinW (q :: l) ≠ [] := by
  cases l with
  | nil => exact stWords_ne _ _ _
  | cons r l => unfold joinW; simp
theorem shift_shift (a b : Nat) (ps : List (Int × Str)) : shift a (shift b ps) = shift (a + b) ps := by
  unfold shift
  rw [List.map_map]
  congr 1
  funext p
  simp only [Function.comp]
  congr 1
  push_cast
  omega
theorem foldl_join : ∀ (l : List (Nat × Str × Str)) (q : Nat × Str × Str) (ws : List Str) (ps : List (Int × Str)), ws ≠ [] →
    (q :: l).foldl stepW (ws, ps) = (ws ++ (";" : Str) :: joinW (q :: l), ps ++ shift (ws.length + 1) (joinP (q :: l)))
  | [], q, ws, ps, h => by
    simp only [List.foldl_cons, List.foldl_nil, stepW, sepd, if_neg h, joinW, joinP, List.append_assoc, List.singleton_append, List.length_append, List.length_singleton]
  | r :: l, q, ws, ps, h => by
    rw [List.foldl_cons, foldl_join l r _ _ (by simp only [stepW, ne_eq, List.append_eq_nil_iff, not_and]; intro _; exact stWords_ne _ _ _)]
    simp only [stepW, sepd, if_neg h, joinW, joinP, List.append_assoc, List.nil_append, List.length_append, List.length_singleton, List.cons_append, List.length_cons]
    congr 1
    congr 1
    unfold shift
    simp only [List.map_append, List.map_map]
    congr 1
    apply List.map_congr_left
    intro p _
    simp only [Function.comp]
    congr 1
    push_cast
    omega
theorem runSt_join : ∀ (l : List (Nat × Str × Str)), runSt l = (joinW l, joinP l)
  | [] => rfl
  | [q] => by
    have e : shift 0 (stPairs q.1) = stPairs q.1 := by unfold shift; simp
    show stepW ([], []) q = _
    simp only [stepW, sepd, if_true, List.nil_append, List.length_nil, joinW, joinP, e]
  | q :: r :: l => by
    have e : shift 0 (stPairs q.1) = stPairs q.1 := by unfold shift; simp
    have e1 : runSt (q :: r :: l) = (r :: l).foldl stepW (stWords q.1 q.2.1 q.2.2, stPairs q.1) := by
      show (r :: l).foldl stepW (stepW ([], []) q) = _
      simp only [stepW, sepd, if_true, List.nil_append, List.length_nil, e]
    rw [e1, foldl_join l r _ _ (stWords_ne _ _ _)]
    rfl
def stOk (k : Nat) (x y : Str) : Bool :=
  ([("l" : Str), "O", "I", "x", "ll", "1", ":", ")"]).contains (lastW (stWords k x y)) && ([("l" : Str), "O", "I", "x", "ll", "for", "\x69mport", "class", "def", "f", "global", "with"]).contains (headW (stWords k x y)) &&
  (stPairs k).all (fun p => decide (0 ≤ p.1) && decide (p.1 < ((stWords k x y).length : Int)) && ([m741, m742, m743]).contains p.2) && (stWords k x y).all fun z => vocab.contains z
theorem stOk_all : (List.range 11).all (fun k => names.all fun x => names.all fun y => stOk k x y) = true := by decide +kernel
theorem stOk_of {q : Nat × Str × Str} (h : OkSt q) : stOk q.1 q.2.1 q.2.2 = true := by
  have z := stOk_all
  rw [List.all_eq_true] at z
  have z := z q.1 (List.mem_range.mpr (Nat.lt_succ_of_le h.1))
  rw [List.all_eq_true] at z
  have z := z _ h.2.1
  rw [List.all_eq_true] at z
  exact z _ h.2.2
structure StOk (q : Nat × Str × Str) : Prop where
  last : lastW (stWords q.1 q.2.1 q.2.2) ∈ ([("l" : Str), "O", "I", "x", "ll", "1", ":", ")"])
  head : headW (stWords q.1 q.2.1 q.2.2) ∈ ([("l" : Str), "O", "I", "x", "ll", "for", "\x69mport", "class", "def", "f", "global", "with"])
  pairs : ∀ p ∈ stPairs q.1, 0 ≤ p.1 ∧ p.1 < ((stWords q.1 q.2.1 q.2.2).length : Int) ∧ p.2 ∈ [m741, m742, m743]
  words : ∀ z ∈ stWords q.1 q.2.1 q.2.2, z ∈ vocab
theorem StOk.of {q : Nat × Str × Str} (h : OkSt q) : StOk q := by
  have z := stOk_of h
  unfold stOk at z
  simp only [Bool.and_eq_true, List.contains_iff_mem, List.all_eq_true, decide_eq_true_eq] at z
  exact ⟨z.1.1.1, z.1.1.2, fun p hp => ⟨(z.1.2 p hp).1.1, (z.1.2 p hp).1.2, (z.1.2 p hp).2⟩, z.2⟩
theorem tkl_append (av : Nat → Addr) (sv : Nat → Value) : ∀ (a b : List Str) (n : Nat), tkl av sv n (a ++ b) = tkl av sv n a ++ tkl av sv (n + a.length) b
  | [], b, n => rfl
  | x :: a, b, n => by
    rw [List.cons_append, tkl, tkl, tkl_append av sv a b (n + 1), List.length_cons, List.cons_append]
    congr 3
    omega
theorem tkl_shift (av : Nat → Addr) (sv : Nat → Value) (d : Nat) : ∀ (a : List Str) (n : Nat), tkl (fun j => av (d + j)) (fun j => sv (d + j)) n a = tkl av sv (d + n) a
  | [], n => rfl
  | x :: a, n => by rw [tkl, tkl, tkl_shift av sv d a (n + 1)]; rfl
theorem getD_left (a b : List Str) (i : Nat) (h : i < a.length) : (a ++ b).getD i "" = a.getD i "" := by
  rw [List.getD_eq_getElem?_getD, List.getD_eq_getElem?_getD, List.getElem?_append_left h]
theorem getD_right (a b : List Str) (i : Nat) : (a ++ (";" : Str) :: b).getD (a.length + 1 + i) "" = b.getD i "" := by
  rw [List.getD_eq_getElem?_getD, List.getD_eq_getElem?_getD, List.getElem?_append_right (by omega)]
  have e : a.length + 1 + i - a.length = i + 1 := by omega
  rw [e, List.getElem?_cons_succ]
theorem exps_append (sv : Nat → Value) (a b : List Str) (ps qs : List (Int × Str)) (h1 : ∀ p ∈ ps, 0 ≤ p.1 ∧ p.1 < (a.length : Int)) (h2 : ∀ p ∈ qs, 0 ≤ p.1) :
    exps sv (a ++ (";" : Str) :: b) (ps ++ shift (a.length + 1) qs) = exps sv a ps ++ exps (fun j => sv (a.length + 1 + j)) b qs := by
  unfold exps
  rw [List.filter_append, List.map_append]
  have e1 : ∀ p ∈ ps, (a ++ (";" : Str) :: b).getD p.1.toNat "" = a.getD p.1.toNat "" := fun p hp => getD_left _ _ _ (by have := h1 p hp; omega)
  have e2 : ∀ p ∈ qs, ((a.length + 1 : Nat) : Int).toNat + p.1.toNat = (((a.length + 1 : Nat) : Int) + p.1).toNat := fun p hp => by have := h2 p hp; omega
  congr 1
  · rw [List.filter_congr (fun p hp => by rw [e1 p hp])]
    apply List.map_congr_left
    intro p hp
    rw [e1 p (List.mem_filter.mp hp).1]
  · induction qs with
    | nil => rfl
    | cons q qs ih =>
      have ih := ih (fun p hp => h2 p (.tail _ hp)) (fun p hp => e2 p (.tail _ hp))
      have e3 : (((a.length + 1 : Nat) : Int) + q.1).toNat = a.length + 1 + q.1.toNat := by have := h2 q (.head _); omega
      have e4 : shift (a.length + 1) (q :: qs) = (((a.length + 1 : Nat) : Int) + q.1, q.2) :: shift (a.length + 1) qs := rfl
      rw [e4, List.filter_cons, List.filter_cons]
      simp only [e3, getD_right]
      split
      · rw [List.map_cons, List.map_cons, ih]
        simp only [e3, getD_right]
      · exact ih
theorem joinP_ok : ∀ (l : List (Nat × Str × Str)), (∀ r ∈ l, OkSt r) → (∀ p ∈ joinP l, 0 ≤ p.1 ∧ p.1 < ((joinW l).length : Int) ∧ p.2 ∈ [m741, m742, m743]) ∧ (∀ z ∈ joinW l, z ∈ vocab)
  | [], _ => ⟨fun _ h => (nomatch h), fun _ h => (nomatch h)⟩
  | [q], h => ⟨(StOk.of (h q (.head _))).pairs, (StOk.of (h q (.head _))).words⟩
  | q :: r :: l, h => by
    obtain ⟨i1, i2⟩ := joinP_ok (r :: l) fun x hx => h x (.tail _ hx)
    have z := StOk.of (h q (.head _))
    refine ⟨fun p hp => ?_, fun x hx => ?_⟩
    · rcases List.mem_append.mp hp with hp | hp
      · have b := z.pairs p hp
        refine ⟨b.1, ?_, b.2.2⟩
        simp only [joinW, List.length_append, List.length_cons]
        omega
      · obtain ⟨p', hp', e⟩ := List.mem_map.mp hp
        have b := i1 p' hp'
        subst e
        refine ⟨?_, ?_, b.2.2⟩
        · show 0 ≤ ((_ : Nat) : Int) + p'.1
          omega
        · show ((_ : Nat) : Int) + p'.1 < _
          simp only [joinW, List.length_append, List.length_cons]
          omega
    · rcases List.mem_append.mp hx with hx | hx
      · exact z.words x hx
      rcases List.mem_cons.mp hx with rfl | hx
      · decide +kernel
      · exact i2 x hx
theorem head_tail {ws : List Str} (h : ws ≠ []) : ws = headW ws :: ws.tail := by
  cases ws with
  | nil => exact absurd rfl h
  | cons x xs => rfl
theorem nextSt_ok {k : Nat} {fs : Option Int × Bool} (h : fs ∈ fss) : nextSt k fs ∈ fss := by
  unfold nextSt
  split
  · exact .tail _ (.head _)
  · exact h
theorem headW_join (q : Nat × Str × Str) (l : List (Nat × Str × Str)) : headW (joinW (q :: l)) = headW (stWords q.1 q.2.1 q.2.2) := by
  cases l with
  | nil => rfl
  | cons r l =>
    show headW (stWords _ _ _ ++ _) = _
    rw [head_tail (stWords_ne q.1 q.2.1 q.2.2)]
    rfl
theorem run_join : ∀ (l : List (Nat × Str × Str)) (q : Nat × Str × Str) (sv : Nat → Value) (av : Nat → Addr) (fs : Option Int × Bool), fs ∈ fss → (∀ r ∈ q :: l, OkSt r) →
    grun fs.1 fs.2 0 (headW (joinW (q :: l))) (sv 0) (tkl av sv 1 (joinW (q :: l)).tail) = exps sv (joinW (q :: l)) (joinP (q :: l))
  | [], q, sv, av, fs, hf, h => (st_run sv av [] .none 0 q.1 (List.mem_range.mpr (Nat.lt_succ_of_le (h q (.head _)).1)) _ (h q (.head _)).2.1 _ (h q (.head _)).2.2 fs hf).1
  | r :: l, q, sv, av, fs, hf, h => by
    have z := StOk.of (h q (.head _))
    have zr := StOk.of (h r (.tail _ (.head _)))
    have i := run_join l r (fun j => sv ((stWords q.1 q.2.1 q.2.2).length + 1 + j)) (fun j => av ((stWords q.1 q.2.1 q.2.2).length + 1 + j)) (nextSt q.1 fs) (nextSt_ok hf) fun x hx => h x (.tail _ hx)
    have ok := joinP_ok (r :: l) fun x hx => h x (.tail _ hx)
    rw [headW_join]
    show grun _ _ _ _ _ (tkl av sv 1 (stWords q.1 q.2.1 q.2.2 ++ (";" : Str) :: joinW (r :: l)).tail) = exps sv (stWords q.1 q.2.1 q.2.2 ++ (";" : Str) :: joinW (r :: l)) (stPairs q.1 ++ shift ((stWords q.1 q.2.1 q.2.2).length + 1) (joinP (r :: l)))
    rw [exps_append sv _ _ _ _ (fun p hp => ⟨(z.pairs p hp).1, (z.pairs p hp).2.1⟩) (fun p hp => (ok.1 p hp).1)]
    rw [← i]
    have et : (stWords q.1 q.2.1 q.2.2 ++ (";" : Str) :: joinW (r :: l)).tail = (stWords q.1 q.2.1 q.2.2).tail ++ (";" : Str) :: joinW (r :: l) := by
      rw [head_tail (stWords_ne q.1 q.2.1 q.2.2)]; rfl
    have el : 1 + (stWords q.1 q.2.1 q.2.2).tail.length = (stWords q.1 q.2.1 q.2.2).length := by
      conv => rhs; rw [head_tail (stWords_ne q.1 q.2.1 q.2.2)]
      rw [List.length_cons]; omega
    rw [et, tkl_append, el, tkl]
    rw [(st_run sv av _ _ _ q.1 (List.mem_range.mpr (Nat.lt_succ_of_le (h q (.head _)).1)) _ (h q (.head _)).2.1 _ (h q (.head _)).2.2 fs hf).2]
    congr 1
    rw [head_tail (joinW_ne r l), tkl]
    rw [headW_join]
    rw [sep_run _ _ _ _ _ _ _ z.last _ zr.head _ (nextSt_ok hf)]
    rw [tkl_shift]
    rfl
end Mine

end
section
open PySem PySem.W PyProof.Rows PySem.Calls
set_option maxHeartbeats 16000000
namespace Mine
def noTK : TK := ⟨"", 0, .none⟩
theorem tks_tkl : ∀ (tks pre : List TK), tks = tkl (fun j => ((pre ++ tks).getD j noTK).a) (fun j => ((pre ++ tks).getD j noTK).sv) pre.length (tks.map (·.text))
  | [], pre => rfl
  | t :: tks, pre => by
    have ih := tks_tkl tks (pre ++ [t])
    rw [List.append_assoc, List.singleton_append] at ih
    rw [List.map_cons, tkl]
    have e : (pre ++ t :: tks).getD pre.length noTK = t := by rw [List.getD_eq_getElem?_getD, List.getElem?_append_right (Nat.le_refl _)]; simp
    rw [e]
    rw [List.length_append, List.length_singleton] at ih
    rw [← ih]
theorem msg_ok : ∀ a ∈ [m741, m742, m743], ∀ x ∈ ([("l" : Str), "O", "I"]), PyData.strOk (msg a x) = true := by decide +kernel
theorem avoid_mem {x : Str} (h : avoid x = true) : x ∈ ([("l" : Str), "O", "I"]) := by
  unfold avoid at h
  rw [List.any_eq_true] at h
  obtain ⟨y, hy, e⟩ := h
  have : y = x := by simpa using e
  exact this ▸ hy
theorem due_ok {ws : List Str} {qs : List (Str × Int)} {ps : List (Int × Str)} (h : ∀ p ∈ ps, p.2 ∈ [m741, m742, m743]) : ∀ d ∈ dueDs ws qs ps, kqdOk 8 d = true := by
  intro d hd
  obtain ⟨p, hp, rfl⟩ := List.mem_map.mp hd
  have hf := List.mem_filter.mp hp
  have z := msg_ok _ (h p hf.1) _ (avoid_mem hf.2)
  rw [List.getD_eq_getElem?_getD] at z
  simp [kqdOk, z]
theorem texts_len : ∀ a ∈ [m741, m742, m743], a.length ≤ 100 := by decide +kernel
theorem lBody_eq : lBody = [lb 0, lb 1, lb 2, lb 3, lb 4, lb 5] := rfl
section
variable {w : World} {A A₀ : Around} {s : Shared} {h₀ base : Heap} {L : Addr} {m mg mb : Str → Option Value} {news : List (Addr × Obj)} {mean : ExcName → Option Value} {p : Program} {loose : List Str} {outer : List Env} {R : Result → Shared → Prop}
theorem law_body {cd : Value × Addr} {sa : Addr} {oc : Obj} {ks : List Int} {Q : Flow → Shared → Prop}
    (X : (KF w.params).In h₀) (T : Top p loose mean mg mb h₀) (hS : Scr h₀ sa ks) (F : Fr h₀ L s.heap m) (N : News h₀ L s.heap [(L + 1, oc)]) (hoc : oc.data = .cell none) (sm : m "script" = some (.ref sa)) (hAB : AllBare s.gens)
    (H : ∀ h' gens' dr tk m', AllBare gens' → Fr h₀ L h' m' → Q (.ret (.bool true)) { heap := h', gens := gens', drawn := dr, toks := tk, os := s.os }) :
    wpAny (model (RowW.prog (OpenRow.toRowW (OpenLaw.row PySem.Challenge.rw_bd0046_01))) w) (callerA.deeper (lEnv L cd)) (execs [lb 0, lb 1, lb 2, lb 3, lb 4, lb 5] (lEnv L cd)) Q (fun _ _ => False) s := by
  refine wpAny_execs_cons (lb0_ X T F N hoc sm ?_)
  intro h1 tk1 m1 aa1 wa1 oc1 n11 n21 rest1 S1
  refine wpAny_execs_cons (law_for X T hS S1 ?_)
  intro h2 tk2 m2 sts aa wa oc2 wvs avs n1 n2 rest2 l1 l4 hok S2
  have rl := runSt_len sts
  have hne : (runSt sts).1 ≠ [] := by
    rw [runSt_join]
    cases sts with
    | nil => simp at l1
    | cons q l => exact joinW_ne q l
  have hj := joinP_ok sts hok
  rw [← show (runSt sts).1 = joinW sts from by rw [runSt_join], ← show (runSt sts).2 = joinP sts from by rw [runSt_join]] at hj
  have hge : (runSt sts).1.length ≥ 1 := by
    cases e : (runSt sts).1 with
    | nil => exact absurd e hne
    | cons x xs => simp
  have hrun : ∀ sv av, grun none false 0 (headW (runSt sts).1) (sv 0) (tkl av sv 1 (runSt sts).1.tail) = exps sv (runSt sts).1 (runSt sts).2 := by
    intro sv av
    rw [runSt_join]
    cases sts with
    | nil => simp at l1
    | cons q l => exact run_join l q sv av (none, false) (.head _) hok
  generalize hws : (runSt sts).1 = ws at *
  generalize hps : (runSt sts).2 = ps at *
  refine wpAny_execs_cons (lb2_ X T hge (by omega) hj.2 S2 ?_)
  intro h3 tk3 m3 fo tks nf rest3 S3
  refine wpAny_execs_cons (lb3_ X T S3 ?_)
  intro h4 tk4 m4 du S4 N4 lt4 dm4
  have hz : ∀ q ∈ ws.zip (gapsOf ws), q.1.length ≤ 20 ∧ 0 ≤ q.2 ∧ q.2 ≤ 1 := fun q hq => by
    have hq' := List.of_mem_zip (show (q.1, q.2) ∈ ws.zip (gapsOf ws) from hq)
    exact ⟨vocab_len _ (hj.2 _ hq'.1), gaps_ok _ hq'.2⟩
  have hll := lay_len (ws.zip (gapsOf ws)) hz
  have hmap : (ws.zip (gapsOf ws)).map (·.1) = ws := List.map_fst_zip (Nat.le_of_eq (gaps_len ws hge))
  have htx : tks.map (·.text) = ws := by rw [S4.TA.texts, hll.2.2.1, hmap]
  have hlen : tks.length = ws.length := by rw [← htx, List.length_map]
  refine wpAny_execs_cons (lb4_ X T S4 rfl N4 lt4 dm4 (fun q hq => ⟨(hj.1 q hq).1, (hj.1 q hq).2.1, texts_len _ (hj.1 q hq).2.2⟩) hlen (by omega) (fun x hx => vocab_len x (hj.2 x hx)) (by omega) ?_)
  intro h5 tk5 m5 dvs nd extra F5 N5 DD5 tm5 dm5
  have sub : ∀ q ∈ rest3, q ∈ (du, listOf dvs.toArray nd) :: (extra ++ ((L + 1, oc2) :: (wa, listOf wvs.toArray n1) :: (aa, listOf avs.toArray n2) :: (fo, listOf (tks.map fun t => Value.ref t.a).toArray nf) :: rest3)) := fun q hq => .tail _ (List.mem_append_right _ (.tail _ (.tail _ (.tail _ (.tail _ hq)))))
  have Y : ToksIn h5 fo tks := by
    refine ⟨⟨_, (N5 (fo, listOf (tks.map fun t => Value.ref t.a).toArray nf) (.tail _ (List.mem_append_right _ (.tail _ (.tail _ (.tail _ (.head _))))))).1, rfl, _, rfl⟩, fun t ht => ?_, by omega⟩
    obtain ⟨q, -, te, d, v, t1, en, ln, st, t6, t7, e1, q1, q2⟩ := S4.TA.mem ht
    refine ⟨d, v, t1, en, ln, ?_⟩
    rw [te, e1]
    exact (N5 _ (sub _ q1)).1
  cases tks with
  | nil => simp at hlen; omega
  | cons t0 tr =>
    have e0 := tks_tkl (t0 :: tr) []
    rw [List.nil_append, htx] at e0
    have e1 := head_tail hne
    rw [e1, tkl] at e0
    have e2 := hrun (fun j => ((t0 :: tr).getD j noTK).sv) (fun j => ((t0 :: tr).getD j noTK).a)
    have e3 : t0.text = headW ws := by rw [← htx]; rfl
    have e4 : tr = tkl (fun j => ((t0 :: tr).getD j noTK).a) (fun j => ((t0 :: tr).getD j noTK).sv) 1 ws.tail := (List.cons.inj e0).2
    have hrun' : grun none false 0 t0.text t0.sv tr = exps (fun j => ((t0 :: tr).getD j noTK).sv) ws ps := by
      rw [e3]
      rw [← e4] at e2
      exact e2
    refine wpAny_execs_cons (lb5_ (rest := []) X T F5 N5 DD5 tm5 dm5 hAB Y rfl hrun' ?_ ?_ (due_ok fun q hq => (hj.1 q hq).2.2) ?_)
    · unfold exps
      rw [List.length_map]
      have a := List.length_filter_le (fun p : Int × Str => avoid (ws.getD p.1.toNat "")) ps
      have b : 100 < sizeLine := by decide
      omega
    · intro q hq
      have b := hj.1 q (List.mem_filter.mp hq).1
      have hk : q.1.toNat < (t0 :: tr).length := by omega
      obtain ⟨te, d9, v9, t19, en9, ln9, st9, t69, t79, esv, mt1, mt2⟩ := S4.TA.at (List.getElem?_eq_getElem hk)
      refine ⟨st9, t69, t79, ?_, (N5 _ (sub _ mt2)).1⟩
      rw [← esv]
      show ((t0 :: tr).getD q.1.toNat noTK).sv = _
      rw [List.getD_eq_getElem?_getD, List.getElem?_eq_getElem hk]
      rfl
    · intro h6 gens6 dr6 tk6 m6 AB6 hk6
      exact H h6 gens6 dr6 tk6 m6 AB6 hk6
end
end Mine

end
section
open PySem PySem.W PyProof.Rows PySem.Calls
set_option maxHeartbeats 16000000
namespace Mine
theorem top_step {w : World} {s : Shared} {h₀ : Heap} {L fa sa : Addr} {cdv : Value} {m mg mb : Str → Option Value} {mean : ExcName → Option Value} {p : Program} {loose : List Str} {oc : Obj} {items : List Value} {ks : List Int} {as : List Addr}
    (X : (KF w.params).In h₀) (T : Top p loose mean mg mb h₀) (hL : h₀.IsList sa items.toArray) (hI : IntsAre items ks) (r0 : Reads h₀ (.ref sa) (.list (ks.map .int)) as) (hlen : ¬ 63 < (ks.length : Int))
    (F : Fr h₀ L s.heap m) (N : News h₀ L s.heap [(L + 1, oc)]) (hoc : oc.data = .cell none) (sm : m "script" = some (.ref sa)) (hAB : AllBare s.gens) :
    wpAny (model (RowW.prog (OpenRow.toRowW (OpenLaw.row PySem.Challenge.rw_bd0046_01))) w) (callerA.deeper (envOfC "law" lScope L fa cdv)) (execs lBody (envOfC "law" lScope L fa cdv)) (fun f s' => f = .ret (.bool true) ∧ AllBare s'.gens ∧ s'.os = s.os ∧ ∃ m', Fr h₀ L s'.heap m') (fun _ _ => False) s :=
  law_body (cd := (cdv, fa)) X T ⟨_, _, hL, hI, r0, hlen⟩ F N hoc sm hAB fun h' gens' dr tk m' AB F' => ⟨rfl, AB, rfl, m', F'⟩
end Mine

end
open PySem PySem.W PyProof.Rows PySem.Calls
set_option maxHeartbeats 8000000
namespace Mine
noncomputable abbrev HK := kHook KF [2, 3, 73, 74, 95, 96, 154, 155, 156, 164, 165, 171, 172, 178, 179, 185, 186, 192, 193, 199, 200] (fun _ => by kernel_rfl)
def view : Program := { PySem.Challenge.pw_bd0046_01 with main := { PySem.Challenge.pw_bd0046_01.main with body := [topSt 0, topSt 2, topSt 3, topSt 4, topSt 5, topSt 7, topSt 8, topSt 9, topSt 10, topSt 11, topSt 12] } }
abbrev rr : RowW := OpenRow.toRowW (OpenLaw.row PySem.Challenge.rw_bd0046_01)
end Mine
theorem PySem.Challenge.cw_bd0046_01_holds : PySem.Challenge.rw_bd0046_01.Holds := by
  w_on; o_law
  refine holds_open (q := Mine.view) (loose := ["_tuplegetter", "tokenize", "Token"]) (Xt := fun s => xlAt Mine.view [] s && recOk (RowW.records Mine.rr) s) (XP := XL Mine.view []) (Yf := Hook.obs Mine.HK) (Ya := Hook.val Mine.HK) (YP := Hook.says Mine.HK) (N := 4606) ?hl (Hook.of Mine.HK) (Hook.keeps Mine.HK) (fun s e => xl_of s (Bool.and_eq_true_iff.mp e).1) XL.keeps (by rfl) (by rfl) (by rfl) (fun s e => recFacts_of (Bool.and_eq_true_iff.mp e).2) (by rfl) (by first | assumption | decide +kernel) (by decide +kernel) ⟨rfl, rfl, rfl, rfl, rfl, by decide +kernel⟩ ?hw ?hc
  case hl => 
    intro w
    kernel_rfl
  case hw => w_witness2
  lgec_go0
  rename PyProof.Rows.Top _ _ _ _ _ _ => T9
  rename Frag.In _ _ => X9
  rename Fr _ _ _ _ => F9
  rename News _ _ _ _ => N9
  rename Heap.IsList _ _ _ => hL9
  rename IntsAre _ _ => hI9
  rename Reads _ _ _ _ => r9
  rename ¬ _ => hcond9
  rename _ = #[] => hg9
  rename Obj.data _ = Data.cell _ => hc9
  refine wpAny_mono (Mine.top_step X9 T9 hL9 hI9 r9 hcond9 F9 N9 hc9 rfl (AllBare.of_eq hg9)) (fun f s' h => ?_) fun _ _ z => z.elim
  obtain ⟨rfl, hb9, ho9, m9, F8⟩ := h
  clear F9
  rename Based _ _ _ _ _ => B9
  refine ⟨.inl ⟨_, .bool true, [], rfl, fun _ => ?ra, ReadsW.bool _, ?po, fun _ => ⟨.nil, fun _ ha => nomatch ha⟩⟩, B9.finish F8, ho9, hb9⟩
  case ra => rfl
  case po => first | rfl | kernel_rfl | row_post_m

