import PyProof.Rows.All
import Wide.All
import OpenK.AllK
import Wide.FinOn
import Lean
import PySem.Challenge.RW_xp0032_01
set_option Elab.async false
set_option linter.all false
set_option rowWalk.seconds 0
set_option maxRecDepth 100000
section XHead
open PySem PySem.W PyProof.Rows
set_option maxRecDepth 1000000
namespace Mine
noncomputable def partsOfFn : Stmt → Arguments × List Stmt × Scope
  | .FunctionDef _ a b _ _ _ s _ _ _ => (a, b, s)
  | _ => default
noncomputable def topSt (i : Nat) : Stmt := PySem.Challenge.pw_xp0032_01.main.body.getD i default
noncomputable def clsSt (i j : Nat) : Stmt := match topSt i with
  | .ClassDef _ _ _ b _ _ _ _ _ _ _ => b.getD j default
  | _ => default
noncomputable def q38 : { x : Arguments × List Stmt × Scope // x = partsOfFn (topSt 1) } := ⟨_, by conv => rhs; whnf⟩
noncomputable def q47 : { x : Arguments × List Stmt × Scope // x = partsOfFn (topSt 3) } := ⟨_, by conv => rhs; whnf⟩
noncomputable def q56 : { x : Arguments × List Stmt × Scope // x = partsOfFn (topSt 4) } := ⟨_, by conv => rhs; whnf⟩
noncomputable def q70 : { x : Arguments × List Stmt × Scope // x = partsOfFn (clsSt 8 0) } := ⟨_, by conv => rhs; whnf⟩
noncomputable def q77 : { x : Arguments × List Stmt × Scope // x = partsOfFn (clsSt 8 1) } := ⟨_, by conv => rhs; whnf⟩
noncomputable def q84 : { x : Arguments × List Stmt × Scope // x = partsOfFn (clsSt 8 2) } := ⟨_, by conv => rhs; whnf⟩
noncomputable def q91 : { x : Arguments × List Stmt × Scope // x = partsOfFn (clsSt 8 3) } := ⟨_, by conv => rhs; whnf⟩
noncomputable def q98 : { x : Arguments × List Stmt × Scope // x = partsOfFn (clsSt 8 4) } := ⟨_, by conv => rhs; whnf⟩
noncomputable def q105 : { x : Arguments × List Stmt × Scope // x = partsOfFn (clsSt 8 5) } := ⟨_, by conv => rhs; whnf⟩
noncomputable def q112 : { x : Arguments × List Stmt × Scope // x = partsOfFn (clsSt 8 6) } := ⟨_, by conv => rhs; whnf⟩
noncomputable def q119 : { x : Arguments × List Stmt × Scope // x = partsOfFn (clsSt 8 7) } := ⟨_, by conv => rhs; whnf⟩
noncomputable def q126 : { x : Arguments × List Stmt × Scope // x = partsOfFn (clsSt 8 8) } := ⟨_, by conv => rhs; whnf⟩
noncomputable def q150 : { x : Arguments × List Stmt × Scope // x = partsOfFn (clsSt 9 0) } := ⟨_, by conv => rhs; whnf⟩
noncomputable def q157 : { x : Arguments × List Stmt × Scope // x = partsOfFn (clsSt 9 1) } := ⟨_, by conv => rhs; whnf⟩
noncomputable def q165 : { x : Arguments × List Stmt × Scope // x = partsOfFn (clsSt 9 2) } := ⟨_, by conv => rhs; whnf⟩
noncomputable def q173 : { x : Arguments × List Stmt × Scope // x = partsOfFn (clsSt 9 3) } := ⟨_, by conv => rhs; whnf⟩
noncomputable def q180 : { x : Arguments × List Stmt × Scope // x = partsOfFn (clsSt 9 4) } := ⟨_, by conv => rhs; whnf⟩
noncomputable def q187 : { x : Arguments × List Stmt × Scope // x = partsOfFn (clsSt 9 5) } := ⟨_, by conv => rhs; whnf⟩
noncomputable def q195 : { x : Arguments × List Stmt × Scope // x = partsOfFn (clsSt 9 6) } := ⟨_, by conv => rhs; whnf⟩
noncomputable def q202 : { x : Arguments × List Stmt × Scope // x = partsOfFn (clsSt 9 7) } := ⟨_, by conv => rhs; whnf⟩
noncomputable def q210 : { x : Arguments × List Stmt × Scope // x = partsOfFn (clsSt 9 8) } := ⟨_, by conv => rhs; whnf⟩
noncomputable def q230 : { x : Arguments × List Stmt × Scope // x = partsOfFn (topSt 12) } := ⟨_, by conv => rhs; whnf⟩
noncomputable def q237 : { x : Arguments × List Stmt × Scope // x = partsOfFn (topSt 14) } := ⟨_, by conv => rhs; whnf⟩
noncomputable def q244 : { x : Arguments × List Stmt × Scope // x = partsOfFn (topSt 16) } := ⟨_, by conv => rhs; whnf⟩
noncomputable def q251 : { x : Arguments × List Stmt × Scope // x = partsOfFn (topSt 17) } := ⟨_, by conv => rhs; whnf⟩
noncomputable def q258 : { x : Arguments × List Stmt × Scope // x = partsOfFn (topSt 18) } := ⟨_, by conv => rhs; whnf⟩
noncomputable def q265 : { x : Arguments × List Stmt × Scope // x = partsOfFn (topSt 19) } := ⟨_, by conv => rhs; whnf⟩
noncomputable def q270 : { x : Arguments × List Stmt × Scope // x = partsOfFn (topSt 20) } := ⟨_, by conv => rhs; whnf⟩
noncomputable def q275 : { x : Arguments × List Stmt × Scope // x = partsOfFn (topSt 21) } := ⟨_, by conv => rhs; whnf⟩
noncomputable def o38 : Obj :=
  { cls := Value.type "function", data := Data.func { name := Str.ofString "_wall", qualname := Str.ofString "_wall", params := q38.1.1, body := FuncBody.stmts q38.1.2.1, scope := q38.1.2.2, globals := 3, closure := [], defaults := Value.none, kwdefaults := Value.none, pyModule := Value.str (Str.ofString "__main__") 164, code := Value.ref 37 } }
noncomputable def o47 : Obj :=
  { cls := Value.type "function", data := Data.func { name := Str.ofString "insort_left", qualname := Str.ofString "insort_left", params := q47.1.1, body := FuncBody.stmts q47.1.2.1, scope := q47.1.2.2, globals := 3, closure := [], defaults := Value.ref 39, kwdefaults := Value.ref 40, pyModule := Value.str (Str.ofString "cpy313.bisect") 289, code := Value.ref 46 } }
noncomputable def o56 : Obj :=
  { cls := Value.type "function", data := Data.func { name := Str.ofString "bisect_left", qualname := Str.ofString "bisect_left", params := q56.1.1, body := FuncBody.stmts q56.1.2.1, scope := q56.1.2.2, globals := 3, closure := [], defaults := Value.ref 48, kwdefaults := Value.ref 49, pyModule := Value.str (Str.ofString "cpy313.bisect") 289, code := Value.ref 55 } }
noncomputable def o70 : Obj :=
  { cls := Value.type "function", data := Data.func { name := Str.ofString "__init__", qualname := Str.ofString "_ValueFormatter.__init__", params := q70.1.1, body := FuncBody.stmts q70.1.2.1, scope := q70.1.2.2, globals := 3, closure := [], defaults := Value.none, kwdefaults := Value.none, pyModule := Value.str (Str.ofString "cpy313.email.header") 318, code := Value.ref 69 } }
noncomputable def o77 : Obj :=
  { cls := Value.type "function", data := Data.func { name := Str.ofString "_str", qualname := Str.ofString "_ValueFormatter._str", params := q77.1.1, body := FuncBody.stmts q77.1.2.1, scope := q77.1.2.2, globals := 3, closure := [], defaults := Value.none, kwdefaults := Value.none, pyModule := Value.str (Str.ofString "cpy313.email.header") 318, code := Value.ref 76 } }
noncomputable def o84 : Obj :=
  { cls := Value.type "function", data := Data.func { name := Str.ofString "__str__", qualname := Str.ofString "_ValueFormatter.__str__", params := q84.1.1, body := FuncBody.stmts q84.1.2.1, scope := q84.1.2.2, globals := 3, closure := [], defaults := Value.none, kwdefaults := Value.none, pyModule := Value.str (Str.ofString "cpy313.email.header") 318, code := Value.ref 83 } }
noncomputable def o91 : Obj :=
  { cls := Value.type "function", data := Data.func { name := Str.ofString "newline", qualname := Str.ofString "_ValueFormatter.newline", params := q91.1.1, body := FuncBody.stmts q91.1.2.1, scope := q91.1.2.2, globals := 3, closure := [], defaults := Value.none, kwdefaults := Value.none, pyModule := Value.str (Str.ofString "cpy313.email.header") 318, code := Value.ref 90 } }
noncomputable def o98 : Obj :=
  { cls := Value.type "function", data := Data.func { name := Str.ofString "add_transition", qualname := Str.ofString "_ValueFormatter.add_transition", params := q98.1.1, body := FuncBody.stmts q98.1.2.1, scope := q98.1.2.2, globals := 3, closure := [], defaults := Value.none, kwdefaults := Value.none, pyModule := Value.str (Str.ofString "cpy313.email.header") 318, code := Value.ref 97 } }
noncomputable def o105 : Obj :=
  { cls := Value.type "function", data := Data.func { name := Str.ofString "feed", qualname := Str.ofString "_ValueFormatter.feed", params := q105.1.1, body := FuncBody.stmts q105.1.2.1, scope := q105.1.2.2, globals := 3, closure := [], defaults := Value.none, kwdefaults := Value.none, pyModule := Value.str (Str.ofString "cpy313.email.header") 318, code := Value.ref 104 } }
noncomputable def o112 : Obj :=
  { cls := Value.type "function", data := Data.func { name := Str.ofString "_maxlengths", qualname := Str.ofString "_ValueFormatter._maxlengths", params := q112.1.1, body := FuncBody.stmts q112.1.2.1, scope := q112.1.2.2, globals := 3, closure := [], defaults := Value.none, kwdefaults := Value.none, pyModule := Value.str (Str.ofString "cpy313.email.header") 318, code := Value.ref 111 } }
noncomputable def o119 : Obj :=
  { cls := Value.type "function", data := Data.func { name := Str.ofString "_ascii_split", qualname := Str.ofString "_ValueFormatter._ascii_split", params := q119.1.1, body := FuncBody.stmts q119.1.2.1, scope := q119.1.2.2, globals := 3, closure := [], defaults := Value.none, kwdefaults := Value.none, pyModule := Value.str (Str.ofString "cpy313.email.header") 318, code := Value.ref 118 } }
noncomputable def o126 : Obj :=
  { cls := Value.type "function", data := Data.func { name := Str.ofString "_append_chunk", qualname := Str.ofString "_ValueFormatter._append_chunk", params := q126.1.1, body := FuncBody.stmts q126.1.2.1, scope := q126.1.2.2, globals := 3, closure := [], defaults := Value.none, kwdefaults := Value.none, pyModule := Value.str (Str.ofString "cpy313.email.header") 318, code := Value.ref 125 } }
noncomputable def o150 : Obj :=
  { cls := Value.type "function", data := Data.func { name := Str.ofString "__init__", qualname := Str.ofString "_Accumulator.__init__", params := q150.1.1, body := FuncBody.stmts q150.1.2.1, scope := q150.1.2.2, globals := 3, closure := [(Str.ofString "__class__", 137)], defaults := Value.ref 142, kwdefaults := Value.none, pyModule := Value.str (Str.ofString "cpy313.email.header") 318, code := Value.ref 149, closureTuple := Value.ref 143 } }
noncomputable def o157 : Obj :=
  { cls := Value.type "function", data := Data.func { name := Str.ofString "push", qualname := Str.ofString "_Accumulator.push", params := q157.1.1, body := FuncBody.stmts q157.1.2.1, scope := q157.1.2.2, globals := 3, closure := [], defaults := Value.none, kwdefaults := Value.none, pyModule := Value.str (Str.ofString "cpy313.email.header") 318, code := Value.ref 156 } }
noncomputable def o165 : Obj :=
  { cls := Value.type "function", data := Data.func { name := Str.ofString "pop_from", qualname := Str.ofString "_Accumulator.pop_from", params := q165.1.1, body := FuncBody.stmts q165.1.2.1, scope := q165.1.2.2, globals := 3, closure := [], defaults := Value.ref 158, kwdefaults := Value.none, pyModule := Value.str (Str.ofString "cpy313.email.header") 318, code := Value.ref 164 } }
noncomputable def o173 : Obj :=
  { cls := Value.type "function", data := Data.func { name := Str.ofString "pop", qualname := Str.ofString "_Accumulator.pop", params := q173.1.1, body := FuncBody.stmts q173.1.2.1, scope := q173.1.2.2, globals := 3, closure := [(Str.ofString "__class__", 137)], defaults := Value.none, kwdefaults := Value.none, pyModule := Value.str (Str.ofString "cpy313.email.header") 318, code := Value.ref 172, closureTuple := Value.ref 166 } }
noncomputable def o180 : Obj :=
  { cls := Value.type "function", data := Data.func { name := Str.ofString "__len__", qualname := Str.ofString "_Accumulator.__len__", params := q180.1.1, body := FuncBody.stmts q180.1.2.1, scope := q180.1.2.2, globals := 3, closure := [], defaults := Value.none, kwdefaults := Value.none, pyModule := Value.str (Str.ofString "cpy313.email.header") 318, code := Value.ref 179 } }
noncomputable def o187 : Obj :=
  { cls := Value.type "function", data := Data.func { name := Str.ofString "__str__", qualname := Str.ofString "_Accumulator.__str__", params := q187.1.1, body := FuncBody.stmts q187.1.2.1, scope := q187.1.2.2, globals := 3, closure := [], defaults := Value.none, kwdefaults := Value.none, pyModule := Value.str (Str.ofString "cpy313.email.header") 318, code := Value.ref 186 } }
noncomputable def o195 : Obj :=
  { cls := Value.type "function", data := Data.func { name := Str.ofString "reset", qualname := Str.ofString "_Accumulator.reset", params := q195.1.1, body := FuncBody.stmts q195.1.2.1, scope := q195.1.2.2, globals := 3, closure := [], defaults := Value.ref 188, kwdefaults := Value.none, pyModule := Value.str (Str.ofString "cpy313.email.header") 318, code := Value.ref 194 } }
noncomputable def o202 : Obj :=
  { cls := Value.type "function", data := Data.func { name := Str.ofString "is_onlyws", qualname := Str.ofString "_Accumulator.is_onlyws", params := q202.1.1, body := FuncBody.stmts q202.1.2.1, scope := q202.1.2.2, globals := 3, closure := [], defaults := Value.none, kwdefaults := Value.none, pyModule := Value.str (Str.ofString "cpy313.email.header") 318, code := Value.ref 201 } }
noncomputable def o210 : Obj :=
  { cls := Value.type "function", data := Data.func { name := Str.ofString "part_count", qualname := Str.ofString "_Accumulator.part_count", params := q210.1.1, body := FuncBody.stmts q210.1.2.1, scope := q210.1.2.2, globals := 3, closure := [(Str.ofString "__class__", 137)], defaults := Value.none, kwdefaults := Value.none, pyModule := Value.str (Str.ofString "cpy313.email.header") 318, code := Value.ref 209, closureTuple := Value.ref 203 } }
noncomputable def o230 : Obj :=
  { cls := Value.type "function", data := Data.func { name := Str.ofString "_paren_depth", qualname := Str.ofString "_paren_depth", params := q230.1.1, body := FuncBody.stmts q230.1.2.1, scope := q230.1.2.2, globals := 3, closure := [], defaults := Value.ref 223, kwdefaults := Value.none, pyModule := Value.str (Str.ofString "cpy313.imaplib") 528, code := Value.ref 229 } }
noncomputable def o237 : Obj :=
  { cls := Value.type "function", data := Data.func { name := Str.ofString "_byteswap", qualname := Str.ofString "_byteswap", params := q237.1.1, body := FuncBody.stmts q237.1.2.1, scope := q237.1.2.2, globals := 3, closure := [], defaults := Value.none, kwdefaults := Value.none, pyModule := Value.str (Str.ofString "cpy313.wave") 583, code := Value.ref 236 } }
noncomputable def o244 : Obj :=
  { cls := Value.type "function", data := Data.func { name := Str.ofString "_law_forest", qualname := Str.ofString "_law_forest", params := q244.1.1, body := FuncBody.stmts q244.1.2.1, scope := q244.1.2.2, globals := 3, closure := [], defaults := Value.none, kwdefaults := Value.none, pyModule := Value.str (Str.ofString "law_xp0032_01") 596, code := Value.ref 243 } }
noncomputable def o251 : Obj :=
  { cls := Value.type "function", data := Data.func { name := Str.ofString "_law_read", qualname := Str.ofString "_law_read", params := q251.1.1, body := FuncBody.stmts q251.1.2.1, scope := q251.1.2.2, globals := 3, closure := [], defaults := Value.none, kwdefaults := Value.none, pyModule := Value.str (Str.ofString "law_xp0032_01") 596, code := Value.ref 250 } }
noncomputable def o258 : Obj :=
  { cls := Value.type "function", data := Data.func { name := Str.ofString "_law_table", qualname := Str.ofString "_law_table", params := q258.1.1, body := FuncBody.stmts q258.1.2.1, scope := q258.1.2.2, globals := 3, closure := [], defaults := Value.none, kwdefaults := Value.none, pyModule := Value.str (Str.ofString "law_xp0032_01") 596, code := Value.ref 257 } }
noncomputable def o265 : Obj :=
  { cls := Value.type "function", data := Data.func { name := Str.ofString "_law_ways", qualname := Str.ofString "_law_ways", params := q265.1.1, body := FuncBody.stmts q265.1.2.1, scope := q265.1.2.2, globals := 3, closure := [], defaults := Value.none, kwdefaults := Value.none, pyModule := Value.str (Str.ofString "law_xp0032_01") 596, code := Value.ref 264 } }
noncomputable def o270 : Obj :=
  { cls := Value.type "function", data := Data.func { name := Str.ofString "_law_told", qualname := Str.ofString "_law_told", params := q270.1.1, body := FuncBody.stmts q270.1.2.1, scope := q270.1.2.2, globals := 3, closure := [], defaults := Value.none, kwdefaults := Value.none, pyModule := Value.str (Str.ofString "law_xp0032_01") 596, code := Value.ref 269 } }
noncomputable def o275 : Obj :=
  { cls := Value.type "function", data := Data.func { name := Str.ofString "law", qualname := Str.ofString "law", params := q275.1.1, body := FuncBody.stmts q275.1.2.1, scope := q275.1.2.2, globals := 3, closure := [], defaults := Value.none, kwdefaults := Value.none, pyModule := Value.str (Str.ofString "law_xp0032_01") 596, code := Value.ref 274 } }
namespace hd
set_option maxHeartbeats 4000000 in
noncomputable def heap_39 : Params → Frag := fun P =>
  (nat_lit 2, { cls := Value.none, data := Data.dict #[{ hash := PyData.keyHash P (Str.ofString "\x69mport.loaded._sre"), key := Value.str (Str.ofString "\x69mport.loaded._sre") 183, val := Value.bool true }, { hash := PyData.keyHash P (Str.ofString "class._frozen_\x69mportlib.BuiltinImporter"), key := Value.str (Str.ofString "class._frozen_\x69mportlib.BuiltinImporter") 185, val := Value.ref 14 }, { hash := PyData.keyHash P (Str.ofString "watched.\x69mport"), key := Value.str (Str.ofString "watched.\x69mport") 206, val := Value.ref 18 }, { hash := PyData.keyHash P (Str.ofString "class._frozen_\x69mportlib.ModuleSpec"), key := Value.str (Str.ofString "class._frozen_\x69mportlib.ModuleSpec") 216, val := Value.ref 22 }, { hash := PyData.keyHash P (Str.ofString "sys.modules.booked-epoch"), key := Value.str (Str.ofString "sys.modules.booked-epoch") 245, val := Value.int 3 0 }, { hash := PyData.keyHash P (Str.ofString "\x69mport.later-laid._sre"), key := Value.str (Str.ofString "\x69mport.later-laid._sre") 270, val := Value.bool true }, { hash := PyData.keyHash P (Str.ofString "watched.library"), key := Value.str (Str.ofString "watched.library") 272, val := Value.ref 27 }, { hash := PyData.keyHash P (Str.ofString "watched.library-objects"), key := Value.str (Str.ofString "watched.library-objects") 0, val := Value.str (Str.ofString "\x0c") 0 }, { hash := PyData.keyHash P (Str.ofString "watched.library-deep._sre"), key := Value.str (Str.ofString "watched.library-deep._sre") 273, val := Value.str (Str.ofString "\x04\x00\x00\x0b\x04\x00\x00\x0b\x04\x00\x00\x03\x04\x00\x00\x0b\x08\x04dict\x02") 0 }] 9 }) ::
  (nat_lit 3, { cls := Value.type "dict", data := Data.dict #[{ hash := PyData.keyHash P (Str.ofString "__name__"), key := Value.str (Str.ofString "__name__") 165, val := Value.str (Str.ofString "law_xp0032_01") 596 }, { hash := PyData.keyHash P (Str.ofString "__doc__"), key := Value.str (Str.ofString "__doc__") 166, val := Value.none }, { hash := PyData.keyHash P (Str.ofString "__package__"), key := Value.str (Str.ofString "__package__") 167, val := Value.none }, { hash := PyData.keyHash P (Str.ofString "__loader__"), key := Value.str (Str.ofString "__loader__") 168, val := Value.builtin "__main__.__loader__#opaque" }, { hash := PyData.keyHash P (Str.ofString "__spec__"), key := Value.str (Str.ofString "__spec__") 169, val := Value.none }, { hash := PyData.keyHash P (Str.ofString "__annotations__"), key := Value.str (Str.ofString "__annotations__") 170, val := Value.ref 6 }, { hash := PyData.keyHash P (Str.ofString "__builtins__"), key := Value.str (Str.ofString "__builtins__") 171, val := Value.ref 4 }, { hash := PyData.keyHash P (Str.ofString "__file__"), key := Value.str (Str.ofString "__file__") 173, val := Value.str (Str.ofString "/claim/cut.py") 172 }, { hash := PyData.keyHash P (Str.ofString "__cached__"), key := Value.str (Str.ofString "__cached__") 174, val := Value.none }, { hash := PyData.keyHash P (Str.ofString "_sre"), key := Value.str (Str.ofString "_sre") 275, val := Value.ref 12 }, { hash := PyData.keyHash P (Str.ofString "_wall"), key := Value.str (Str.ofString "_wall") 288, val := Value.ref 38 }, { hash := PyData.keyHash P (Str.ofString "insort_left"), key := Value.str (Str.ofString "insort_left") 303, val := Value.ref 47 }, { hash := PyData.keyHash P (Str.ofString "bisect_left"), key := Value.str (Str.ofString "bisect_left") 317, val := Value.ref 56 }, { hash := PyData.keyHash P (Str.ofString "NL"), key := Value.str (Str.ofString "NL") 321, val := Value.str (Str.ofString "\n") 320 }, { hash := PyData.keyHash P (Str.ofString "EMPTYSTRING"), key := Value.str (Str.ofString "EMPTYSTRING") 323, val := Value.str (Str.ofString "") 322 }, { hash := PyData.keyHash P (Str.ofString "_ValueFormatter"), key := Value.str (Str.ofString "_ValueFormatter") 431, val := Value.ref 129 }, { hash := PyData.keyHash P (Str.ofString "_Accumulator"), key := Value.str (Str.ofString "_Accumulator") 527, val := Value.ref 213 }, { hash := PyData.keyHash P (Str.ofString "_quoted"), key := Value.str (Str.ofString "_quoted") 573, val := Value.ref 222 }, { hash := PyData.keyHash P (Str.ofString "_paren_depth"), key := Value.str (Str.ofString "_paren_depth") 582, val := Value.ref 230 }, { hash := PyData.keyHash P (Str.ofString "_byteswap"), key := Value.str (Str.ofString "_byteswap") 595, val := Value.ref 237 }, { hash := PyData.keyHash P (Str.ofString "_law_forest"), key := Value.str (Str.ofString "_law_forest") 616, val := Value.ref 244 }, { hash := PyData.keyHash P (Str.ofString "_law_read"), key := Value.str (Str.ofString "_law_read") 630, val := Value.ref 251 }, { hash := PyData.keyHash P (Str.ofString "_law_table"), key := Value.str (Str.ofString "_law_table") 643, val := Value.ref 258 }, { hash := PyData.keyHash P (Str.ofString "_law_ways"), key := Value.str (Str.ofString "_law_ways") 656, val := Value.ref 265 }, { hash := PyData.keyHash P (Str.ofString "_law_told"), key := Value.str (Str.ofString "_law_told") 662, val := Value.ref 270 }, { hash := PyData.keyHash P (Str.ofString "law"), key := Value.str (Str.ofString "law") 668, val := Value.ref 275 }] 26 }) ::
  (nat_lit 32, { cls := Value.type "tuple", data := Data.seq #[] }) ::
  (nat_lit 34, { cls := Value.type "tuple", data := Data.seq #[Value.str (Str.ofString "k") 285] }) ::
  (nat_lit 35, { cls := Value.type "tuple", data := Data.seq #[] }) ::
  (nat_lit 37, { cls := Value.type "code", data := Data.fields #[Value.str (Str.ofString "_wall") 282, Value.str (Str.ofString "_wall") 283, Value.str (Str.ofString "/claim/cut.py") 284, Value.int 2 0, Value.int 1 0, Value.int 0 0, Value.int 0 0, Value.int 3 0, Value.ref 32, Value.bool true, Value.int 276 0, Value.ref 33, Value.none, Value.ref 34, Value.ref 35, Value.ref 36, Value.int 286 0, Value.int 2 0, Value.str (Str.ofString "/claim/cut.py") 287] }) ::
  (nat_lit 38, (by exact fun x _ => x : (x : Obj) → x = o38 → Obj) _ (by conv => rhs; dsimp only [o38, q38])) ::
  (nat_lit 39, { cls := Value.type "tuple", data := Data.seq #[Value.int 0 291, Value.none] }) ::
  (nat_lit 40, { cls := Value.type "dict", data := Data.dict #[{ hash := PyData.keyHash P (Str.ofString "key"), key := Value.str (Str.ofString "key") 292, val := Value.none }] 1 }) ::
  (nat_lit 41, { cls := Value.type "tuple", data := Data.seq #[] }) ::
  (nat_lit 43, { cls := Value.type "tuple", data := Data.seq #[Value.str (Str.ofString "a") 296, Value.str (Str.ofString "x") 297, Value.str (Str.ofString "lo") 298, Value.str (Str.ofString "hi") 299, Value.str (Str.ofString "key") 300] }) ::
  (nat_lit 44, { cls := Value.type "tuple", data := Data.seq #[] }) ::
  (nat_lit 46, { cls := Value.type "code", data := Data.fields #[Value.str (Str.ofString "insort_left") 293, Value.str (Str.ofString "insort_left") 294, Value.str (Str.ofString "/claim/cut.py") 295, Value.int 6 0, Value.int 4 0, Value.int 0 0, Value.int 1 0, Value.int 3 0, Value.ref 41, Value.bool true, Value.int 276 0, Value.ref 42, Value.none, Value.ref 43, Value.ref 44, Value.ref 45, Value.int 301 0, Value.int 6 0, Value.str (Str.ofString "/claim/cut.py") 302] }) ::
  (nat_lit 47, (by exact fun x _ => x : (x : Obj) → x = o47 → Obj) _ (by conv => rhs; dsimp only [o47, q47])) ::
  (nat_lit 48, { cls := Value.type "tuple", data := Data.seq #[Value.int 0 304, Value.none] }) ::
  (nat_lit 49, { cls := Value.type "dict", data := Data.dict #[{ hash := PyData.keyHash P (Str.ofString "key"), key := Value.str (Str.ofString "key") 305, val := Value.none }] 1 }) ::
  (nat_lit 50, { cls := Value.type "tuple", data := Data.seq #[] }) ::
  (nat_lit 52, { cls := Value.type "tuple", data := Data.seq #[Value.str (Str.ofString "a") 309, Value.str (Str.ofString "x") 310, Value.str (Str.ofString "lo") 311, Value.str (Str.ofString "hi") 312, Value.str (Str.ofString "key") 313, Value.str (Str.ofString "mid") 314] }) ::
  (nat_lit 53, { cls := Value.type "tuple", data := Data.seq #[] }) ::
  (nat_lit 55, { cls := Value.type "code", data := Data.fields #[Value.str (Str.ofString "bisect_left") 306, Value.str (Str.ofString "bisect_left") 307, Value.str (Str.ofString "/claim/cut.py") 308, Value.int 12 0, Value.int 4 0, Value.int 0 0, Value.int 1 0, Value.int 3 0, Value.ref 50, Value.bool true, Value.int 276 0, Value.ref 51, Value.none, Value.ref 52, Value.ref 53, Value.ref 54, Value.int 315 0, Value.int 12 0, Value.str (Str.ofString "/claim/cut.py") 316] }) ::
  (nat_lit 56, (by exact fun x _ => x : (x : Obj) → x = o56 → Obj) _ (by conv => rhs; dsimp only [o56, q56])) ::
  (nat_lit 64, { cls := Value.type "tuple", data := Data.seq #[] }) ::
  (nat_lit 66, { cls := Value.type "tuple", data := Data.seq #[Value.str (Str.ofString "self") 339, Value.str (Str.ofString "headerlen") 340, Value.str (Str.ofString "maxlen") 341, Value.str (Str.ofString "continuation_ws") 342, Value.str (Str.ofString "splitchars") 343] }) ::
  (nat_lit 67, { cls := Value.type "tuple", data := Data.seq #[] }) ::
  (nat_lit 69, { cls := Value.type "code", data := Data.fields #[Value.str (Str.ofString "__init__") 336, Value.str (Str.ofString "_ValueFormatter.__init__") 337, Value.str (Str.ofString "/claim/cut.py") 338, Value.int 37 0, Value.int 5 0, Value.int 0 0, Value.int 0 0, Value.int 3 0, Value.ref 64, Value.bool true, Value.int 276 0, Value.ref 65, Value.none, Value.ref 66, Value.ref 67, Value.ref 68, Value.int 344 0, Value.int 37 0, Value.str (Str.ofString "/claim/cut.py") 345] }) ::
  (nat_lit 70, (by exact fun x _ => x : (x : Obj) → x = o70 → Obj) _ (by conv => rhs; dsimp only [o70, q70])) ::
  (nat_lit 71, { cls := Value.type "tuple", data := Data.seq #[] }) ::
  (nat_lit 73, { cls := Value.type "tuple", data := Data.seq #[Value.str (Str.ofString "self") 350, Value.str (Str.ofString "linesep") 351] }) ::
  (nat_lit 74, { cls := Value.type "tuple", data := Data.seq #[] }) ::
  (nat_lit 76, { cls := Value.type "code", data := Data.fields #[Value.str (Str.ofString "_str") 347, Value.str (Str.ofString "_ValueFormatter._str") 348, Value.str (Str.ofString "/claim/cut.py") 349, Value.int 45 0, Value.int 2 0, Value.int 0 0, Value.int 0 0, Value.int 3 0, Value.ref 71, Value.bool true, Value.int 276 0, Value.ref 72, Value.none, Value.ref 73, Value.ref 74, Value.ref 75, Value.int 352 0, Value.int 45 0, Value.str (Str.ofString "/claim/cut.py") 353] }) ::
  (nat_lit 77, (by exact fun x _ => x : (x : Obj) → x = o77 → Obj) _ (by conv => rhs; dsimp only [o77, q77])) ::
  (nat_lit 78, { cls := Value.type "tuple", data := Data.seq #[] }) ::
  (nat_lit 80, { cls := Value.type "tuple", data := Data.seq #[Value.str (Str.ofString "self") 358] }) ::
  (nat_lit 81, { cls := Value.type "tuple", data := Data.seq #[] }) ::
  (nat_lit 83, { cls := Value.type "code", data := Data.fields #[Value.str (Str.ofString "__str__") 355, Value.str (Str.ofString "_ValueFormatter.__str__") 356, Value.str (Str.ofString "/claim/cut.py") 357, Value.int 49 0, Value.int 1 0, Value.int 0 0, Value.int 0 0, Value.int 3 0, Value.ref 78, Value.bool true, Value.int 276 0, Value.ref 79, Value.none, Value.ref 80, Value.ref 81, Value.ref 82, Value.int 359 0, Value.int 49 0, Value.str (Str.ofString "/claim/cut.py") 360] }) ::
  (nat_lit 84, (by exact fun x _ => x : (x : Obj) → x = o84 → Obj) _ (by conv => rhs; dsimp only [o84, q84])) ::
  (nat_lit 85, { cls := Value.type "tuple", data := Data.seq #[] }) ::
  (nat_lit 87, { cls := Value.type "tuple", data := Data.seq #[Value.str (Str.ofString "self") 365, Value.str (Str.ofString "end_of_line") 366] }) ::
  (nat_lit 88, { cls := Value.type "tuple", data := Data.seq #[] }) ::
  (nat_lit 90, { cls := Value.type "code", data := Data.fields #[Value.str (Str.ofString "newline") 362, Value.str (Str.ofString "_ValueFormatter.newline") 363, Value.str (Str.ofString "/claim/cut.py") 364, Value.int 52 0, Value.int 1 0, Value.int 0 0, Value.int 0 0, Value.int 3 0, Value.ref 85, Value.bool true, Value.int 276 0, Value.ref 86, Value.none, Value.ref 87, Value.ref 88, Value.ref 89, Value.int 367 0, Value.int 52 0, Value.str (Str.ofString "/claim/cut.py") 368] }) ::
  (nat_lit 91, (by exact fun x _ => x : (x : Obj) → x = o91 → Obj) _ (by conv => rhs; dsimp only [o91, q91])) ::
  (nat_lit 92, { cls := Value.type "tuple", data := Data.seq #[] }) ::
  (nat_lit 94, { cls := Value.type "tuple", data := Data.seq #[Value.str (Str.ofString "self") 373] }) ::
  (nat_lit 95, { cls := Value.type "tuple", data := Data.seq #[] }) ::
  (nat_lit 97, { cls := Value.type "code", data := Data.fields #[Value.str (Str.ofString "add_transition") 370, Value.str (Str.ofString "_ValueFormatter.add_transition") 371, Value.str (Str.ofString "/claim/cut.py") 372, Value.int 63 0, Value.int 1 0, Value.int 0 0, Value.int 0 0, Value.int 3 0, Value.ref 92, Value.bool true, Value.int 276 0, Value.ref 93, Value.none, Value.ref 94, Value.ref 95, Value.ref 96, Value.int 374 0, Value.int 63 0, Value.str (Str.ofString "/claim/cut.py") 375] }) ::
  (nat_lit 98, (by exact fun x _ => x : (x : Obj) → x = o98 → Obj) _ (by conv => rhs; dsimp only [o98, q98])) ::
  (nat_lit 99, { cls := Value.type "tuple", data := Data.seq #[] }) ::
  (nat_lit 101, { cls := Value.type "tuple", data := Data.seq #[Value.str (Str.ofString "self") 380, Value.str (Str.ofString "fws") 381, Value.str (Str.ofString "string") 382, Value.str (Str.ofString "charset") 383] }) ::
  (nat_lit 102, { cls := Value.type "tuple", data := Data.seq #[] }) ::
  (nat_lit 104, { cls := Value.type "code", data := Data.fields #[Value.str (Str.ofString "feed") 377, Value.str (Str.ofString "_ValueFormatter.feed") 378, Value.str (Str.ofString "/claim/cut.py") 379, Value.int 66 0, Value.int 4 0, Value.int 0 0, Value.int 0 0, Value.int 3 0, Value.ref 99, Value.bool true, Value.int 276 0, Value.ref 100, Value.none, Value.ref 101, Value.ref 102, Value.ref 103, Value.int 384 0, Value.int 66 0, Value.str (Str.ofString "/claim/cut.py") 385] }) ::
  (nat_lit 105, (by exact fun x _ => x : (x : Obj) → x = o105 → Obj) _ (by conv => rhs; dsimp only [o105, q105])) ::
  (nat_lit 106, { cls := Value.type "tuple", data := Data.seq #[] }) ::
  (nat_lit 108, { cls := Value.type "tuple", data := Data.seq #[Value.str (Str.ofString "self") 390] }) ::
  (nat_lit 109, { cls := Value.type "tuple", data := Data.seq #[] }) ::
  (nat_lit 111, { cls := Value.type "code", data := Data.fields #[Value.str (Str.ofString "_maxlengths") 387, Value.str (Str.ofString "_ValueFormatter._maxlengths") 388, Value.str (Str.ofString "/claim/cut.py") 389, Value.int 69 0, Value.int 1 0, Value.int 0 0, Value.int 0 0, Value.int 3 0, Value.ref 106, Value.bool true, Value.int 276 0, Value.ref 107, Value.none, Value.ref 108, Value.ref 109, Value.ref 110, Value.int 391 0, Value.int 69 0, Value.str (Str.ofString "/claim/cut.py") 392] }) ::
  (nat_lit 112, (by exact fun x _ => x : (x : Obj) → x = o112 → Obj) _ (by conv => rhs; dsimp only [o112, q112])) ::
  (nat_lit 113, { cls := Value.type "tuple", data := Data.seq #[] }) ::
  (nat_lit 115, { cls := Value.type "tuple", data := Data.seq #[Value.str (Str.ofString "self") 397, Value.str (Str.ofString "fws") 398, Value.str (Str.ofString "string") 399, Value.str (Str.ofString "splitchars") 400] }) ::
  (nat_lit 116, { cls := Value.type "tuple", data := Data.seq #[] }) ::
  (nat_lit 118, { cls := Value.type "code", data := Data.fields #[Value.str (Str.ofString "_ascii_split") 394, Value.str (Str.ofString "_ValueFormatter._ascii_split") 395, Value.str (Str.ofString "/claim/cut.py") 396, Value.int 72 0, Value.int 4 0, Value.int 0 0, Value.int 0 0, Value.int 3 0, Value.ref 113, Value.bool true, Value.int 276 0, Value.ref 114, Value.none, Value.ref 115, Value.ref 116, Value.ref 117, Value.int 401 0, Value.int 72 0, Value.str (Str.ofString "/claim/cut.py") 402] }) ::
  (nat_lit 119, (by exact fun x _ => x : (x : Obj) → x = o119 → Obj) _ (by conv => rhs; dsimp only [o119, q119])) ::
  (nat_lit 120, { cls := Value.type "tuple", data := Data.seq #[] }) ::
  (nat_lit 122, { cls := Value.type "tuple", data := Data.seq #[Value.str (Str.ofString "self") 407, Value.str (Str.ofString "fws") 408, Value.str (Str.ofString "string") 409, Value.str (Str.ofString "ch") 410, Value.str (Str.ofString "i") 411, Value.str (Str.ofString "prevpart") 412, Value.str (Str.ofString "part") 413, Value.str (Str.ofString "remainder") 414] }) ::
  (nat_lit 123, { cls := Value.type "tuple", data := Data.seq #[] }) ::
  (nat_lit 125, { cls := Value.type "code", data := Data.fields #[Value.str (Str.ofString "_append_chunk") 404, Value.str (Str.ofString "_ValueFormatter._append_chunk") 405, Value.str (Str.ofString "/claim/cut.py") 406, Value.int 75 0, Value.int 3 0, Value.int 0 0, Value.int 0 0, Value.int 3 0, Value.ref 120, Value.bool true, Value.int 276 0, Value.ref 121, Value.none, Value.ref 122, Value.ref 123, Value.ref 124, Value.int 415 0, Value.int 75 0, Value.str (Str.ofString "/claim/cut.py") 416] }) ::
  (nat_lit 126, (by exact fun x _ => x : (x : Obj) → x = o126 → Obj) _ (by conv => rhs; dsimp only [o126, q126])) ::
  (nat_lit 127, { cls := Value.type "tuple", data := Data.seq #[Value.str (Str.ofString "_continuation_ws") 418, Value.str (Str.ofString "_continuation_ws_len") 419, Value.str (Str.ofString "_current_line") 420, Value.str (Str.ofString "_lines") 421, Value.str (Str.ofString "_maxlen") 422, Value.str (Str.ofString "_splitchars") 423] }) ::
  (nat_lit 128, { cls := Value.type "dict", data := Data.dict #[{ hash := PyData.keyHash P (Str.ofString "__module__"), key := Value.str (Str.ofString "__module__") 331, val := Value.str (Str.ofString "cpy313.email.header") 318 }, { hash := PyData.keyHash P (Str.ofString "__firstlineno__"), key := Value.str (Str.ofString "__firstlineno__") 335, val := Value.int 35 334 }, { hash := PyData.keyHash P (Str.ofString "__init__"), key := Value.str (Str.ofString "__init__") 346, val := Value.ref 70 }, { hash := PyData.keyHash P (Str.ofString "_str"), key := Value.str (Str.ofString "_str") 354, val := Value.ref 77 }, { hash := PyData.keyHash P (Str.ofString "__str__"), key := Value.str (Str.ofString "__str__") 361, val := Value.ref 84 }, { hash := PyData.keyHash P (Str.ofString "newline"), key := Value.str (Str.ofString "newline") 369, val := Value.ref 91 }, { hash := PyData.keyHash P (Str.ofString "add_transition"), key := Value.str (Str.ofString "add_transition") 376, val := Value.ref 98 }, { hash := PyData.keyHash P (Str.ofString "feed"), key := Value.str (Str.ofString "feed") 386, val := Value.ref 105 }, { hash := PyData.keyHash P (Str.ofString "_maxlengths"), key := Value.str (Str.ofString "_maxlengths") 393, val := Value.ref 112 }, { hash := PyData.keyHash P (Str.ofString "_ascii_split"), key := Value.str (Str.ofString "_ascii_split") 403, val := Value.ref 119 }, { hash := PyData.keyHash P (Str.ofString "_append_chunk"), key := Value.str (Str.ofString "_append_chunk") 417, val := Value.ref 126 }, { hash := PyData.keyHash P (Str.ofString "__static_attributes__"), key := Value.str (Str.ofString "__static_attributes__") 424, val := Value.ref 127 }, { hash := PyData.keyHash P (Str.ofString "__dict__"), key := Value.str (Str.ofString "__dict__") 426, val := Value.ref 130 }, { hash := PyData.keyHash P (Str.ofString "__weakref__"), key := Value.str (Str.ofString "__weakref__") 428, val := Value.ref 131 }, { hash := PyData.keyHash P (Str.ofString "__doc__"), key := Value.str (Str.ofString "__doc__") 429, val := Value.none }] 4 }) ::
  (nat_lit 129, { cls := Value.type "type", data := Data.cls { name := Str.ofString "_ValueFormatter", bases := [Value.type "object"], mro := [Value.ref 129, Value.type "object"], ns := 128, qualname := Str.ofString "_ValueFormatter" }, slots := #[none, none, some (Value.str (Str.ofString "_ValueFormatter") 324), some (Value.str (Str.ofString "_ValueFormatter") 332), some (Value.builtin "object.__new__"), some (Value.bool true)] }) ::
  (nat_lit 130, { cls := Value.type "getset_descriptor", data := Data.fields #[Value.str (Str.ofString "__dict__") 425, Value.ref 129, Value.builtin "function.__dict__", Value.builtin "function.__dict__#set"] }) ::
  (nat_lit 131, { cls := Value.type "getset_descriptor", data := Data.fields #[Value.str (Str.ofString "__weakref__") 427, Value.ref 129, Value.builtin "ExceptionGroup.__weakref__", Value.none] }) ::
  (nat_lit 134, { cls := Value.type "tuple", data := Data.seq #[Value.type "list"] }) ::
  (nat_lit 137, { cls := Value.type "cell", data := Data.cell (some (Value.ref 213)) }) ::
  (nat_lit 142, { cls := Value.type "tuple", data := Data.seq #[Value.int 0 444] }) ::
  (nat_lit 143, { cls := Value.type "tuple", data := Data.seq #[Value.ref 137] }) ::
  (nat_lit 144, { cls := Value.type "tuple", data := Data.seq #[Value.str (Str.ofString "__class__") 448] }) ::
  (nat_lit 146, { cls := Value.type "tuple", data := Data.seq #[Value.str (Str.ofString "self") 449, Value.str (Str.ofString "initial_size") 450] }) ::
  (nat_lit 147, { cls := Value.type "tuple", data := Data.seq #[] }) ::
  (nat_lit 149, { cls := Value.type "code", data := Data.fields #[Value.str (Str.ofString "__init__") 445, Value.str (Str.ofString "_Accumulator.__init__") 446, Value.str (Str.ofString "/claim/cut.py") 447, Value.int 103 0, Value.int 2 0, Value.int 0 0, Value.int 0 0, Value.int 3 0, Value.ref 144, Value.bool true, Value.int 276 0, Value.ref 145, Value.none, Value.ref 146, Value.ref 147, Value.ref 148, Value.int 451 0, Value.int 103 0, Value.str (Str.ofString "/claim/cut.py") 452] }) ::
  (nat_lit 150, (by exact fun x _ => x : (x : Obj) → x = o150 → Obj) _ (by conv => rhs; dsimp only [o150, q150])) ::
  (nat_lit 151, { cls := Value.type "tuple", data := Data.seq #[] }) ::
  (nat_lit 153, { cls := Value.type "tuple", data := Data.seq #[Value.str (Str.ofString "self") 457, Value.str (Str.ofString "fws") 458, Value.str (Str.ofString "string") 459] }) ::
  (nat_lit 154, { cls := Value.type "tuple", data := Data.seq #[] }) ::
  (nat_lit 156, { cls := Value.type "code", data := Data.fields #[Value.str (Str.ofString "push") 454, Value.str (Str.ofString "_Accumulator.push") 455, Value.str (Str.ofString "/claim/cut.py") 456, Value.int 107 0, Value.int 3 0, Value.int 0 0, Value.int 0 0, Value.int 3 0, Value.ref 151, Value.bool true, Value.int 276 0, Value.ref 152, Value.none, Value.ref 153, Value.ref 154, Value.ref 155, Value.int 460 0, Value.int 107 0, Value.str (Str.ofString "/claim/cut.py") 461] }) ::
  (nat_lit 157, (by exact fun x _ => x : (x : Obj) → x = o157 → Obj) _ (by conv => rhs; dsimp only [o157, q157])) ::
  (nat_lit 158, { cls := Value.type "tuple", data := Data.seq #[Value.int 0 463] }) ::
  (nat_lit 159, { cls := Value.type "tuple", data := Data.seq #[] }) ::
  (nat_lit 161, { cls := Value.type "tuple", data := Data.seq #[Value.str (Str.ofString "self") 467, Value.str (Str.ofString "i") 468, Value.str (Str.ofString "popped") 469] }) ::
  (nat_lit 162, { cls := Value.type "tuple", data := Data.seq #[] }) ::
  (nat_lit 164, { cls := Value.type "code", data := Data.fields #[Value.str (Str.ofString "pop_from") 464, Value.str (Str.ofString "_Accumulator.pop_from") 465, Value.str (Str.ofString "/claim/cut.py") 466, Value.int 110 0, Value.int 2 0, Value.int 0 0, Value.int 0 0, Value.int 3 0, Value.ref 159, Value.bool true, Value.int 276 0, Value.ref 160, Value.none, Value.ref 161, Value.ref 162, Value.ref 163, Value.int 470 0, Value.int 110 0, Value.str (Str.ofString "/claim/cut.py") 471] }) ::
  (nat_lit 165, (by exact fun x _ => x : (x : Obj) → x = o165 → Obj) _ (by conv => rhs; dsimp only [o165, q165])) ::
  (nat_lit 166, { cls := Value.type "tuple", data := Data.seq #[Value.ref 137] }) ::
  (nat_lit 167, { cls := Value.type "tuple", data := Data.seq #[Value.str (Str.ofString "__class__") 476] }) ::
  (nat_lit 169, { cls := Value.type "tuple", data := Data.seq #[Value.str (Str.ofString "self") 477] }) ::
  (nat_lit 170, { cls := Value.type "tuple", data := Data.seq #[] }) ::
  (nat_lit 172, { cls := Value.type "code", data := Data.fields #[Value.str (Str.ofString "pop") 473, Value.str (Str.ofString "_Accumulator.pop") 474, Value.str (Str.ofString "/claim/cut.py") 475, Value.int 115 0, Value.int 1 0, Value.int 0 0, Value.int 0 0, Value.int 3 0, Value.ref 167, Value.bool true, Value.int 276 0, Value.ref 168, Value.none, Value.ref 169, Value.ref 170, Value.ref 171, Value.int 478 0, Value.int 115 0, Value.str (Str.ofString "/claim/cut.py") 479] }) ::
  (nat_lit 173, (by exact fun x _ => x : (x : Obj) → x = o173 → Obj) _ (by conv => rhs; dsimp only [o173, q173])) ::
  (nat_lit 174, { cls := Value.type "tuple", data := Data.seq #[] }) ::
  (nat_lit 176, { cls := Value.type "tuple", data := Data.seq #[Value.str (Str.ofString "self") 484] }) ::
  (nat_lit 177, { cls := Value.type "tuple", data := Data.seq #[] }) ::
  (nat_lit 179, { cls := Value.type "code", data := Data.fields #[Value.str (Str.ofString "__len__") 481, Value.str (Str.ofString "_Accumulator.__len__") 482, Value.str (Str.ofString "/claim/cut.py") 483, Value.int 120 0, Value.int 1 0, Value.int 0 0, Value.int 0 0, Value.int 3 0, Value.ref 174, Value.bool true, Value.int 276 0, Value.ref 175, Value.none, Value.ref 176, Value.ref 177, Value.ref 178, Value.int 485 0, Value.int 120 0, Value.str (Str.ofString "/claim/cut.py") 486] }) ::
  (nat_lit 180, (by exact fun x _ => x : (x : Obj) → x = o180 → Obj) _ (by conv => rhs; dsimp only [o180, q180])) ::
  (nat_lit 181, { cls := Value.type "tuple", data := Data.seq #[] }) ::
  (nat_lit 183, { cls := Value.type "tuple", data := Data.seq #[Value.str (Str.ofString "self") 491] }) ::
  (nat_lit 184, { cls := Value.type "tuple", data := Data.seq #[] }) ::
  (nat_lit 186, { cls := Value.type "code", data := Data.fields #[Value.str (Str.ofString "__str__") 488, Value.str (Str.ofString "_Accumulator.__str__") 489, Value.str (Str.ofString "/claim/cut.py") 490, Value.int 123 0, Value.int 1 0, Value.int 0 0, Value.int 0 0, Value.int 3 0, Value.ref 181, Value.bool true, Value.int 276 0, Value.ref 182, Value.none, Value.ref 183, Value.ref 184, Value.ref 185, Value.int 492 0, Value.int 123 0, Value.str (Str.ofString "/claim/cut.py") 493] }) ::
  (nat_lit 187, (by exact fun x _ => x : (x : Obj) → x = o187 → Obj) _ (by conv => rhs; dsimp only [o187, q187])) ::
  (nat_lit 188, { cls := Value.type "tuple", data := Data.seq #[Value.none] }) ::
  (nat_lit 189, { cls := Value.type "tuple", data := Data.seq #[] }) ::
  (nat_lit 191, { cls := Value.type "tuple", data := Data.seq #[Value.str (Str.ofString "self") 498, Value.str (Str.ofString "startval") 499] }) ::
  (nat_lit 192, { cls := Value.type "tuple", data := Data.seq #[] }) ::
  (nat_lit 194, { cls := Value.type "code", data := Data.fields #[Value.str (Str.ofString "reset") 495, Value.str (Str.ofString "_Accumulator.reset") 496, Value.str (Str.ofString "/claim/cut.py") 497, Value.int 126 0, Value.int 2 0, Value.int 0 0, Value.int 0 0, Value.int 3 0, Value.ref 189, Value.bool true, Value.int 276 0, Value.ref 190, Value.none, Value.ref 191, Value.ref 192, Value.ref 193, Value.int 500 0, Value.int 126 0, Value.str (Str.ofString "/claim/cut.py") 501] }) ::
  (nat_lit 195, (by exact fun x _ => x : (x : Obj) → x = o195 → Obj) _ (by conv => rhs; dsimp only [o195, q195])) ::
  (nat_lit 196, { cls := Value.type "tuple", data := Data.seq #[] }) ::
  (nat_lit 198, { cls := Value.type "tuple", data := Data.seq #[Value.str (Str.ofString "self") 506] }) ::
  (nat_lit 199, { cls := Value.type "tuple", data := Data.seq #[] }) ::
  (nat_lit 201, { cls := Value.type "code", data := Data.fields #[Value.str (Str.ofString "is_onlyws") 503, Value.str (Str.ofString "_Accumulator.is_onlyws") 504, Value.str (Str.ofString "/claim/cut.py") 505, Value.int 132 0, Value.int 1 0, Value.int 0 0, Value.int 0 0, Value.int 3 0, Value.ref 196, Value.bool true, Value.int 276 0, Value.ref 197, Value.none, Value.ref 198, Value.ref 199, Value.ref 200, Value.int 507 0, Value.int 132 0, Value.str (Str.ofString "/claim/cut.py") 508] }) ::
  (nat_lit 202, (by exact fun x _ => x : (x : Obj) → x = o202 → Obj) _ (by conv => rhs; dsimp only [o202, q202])) ::
  (nat_lit 203, { cls := Value.type "tuple", data := Data.seq #[Value.ref 137] }) ::
  (nat_lit 204, { cls := Value.type "tuple", data := Data.seq #[Value.str (Str.ofString "__class__") 513] }) ::
  (nat_lit 206, { cls := Value.type "tuple", data := Data.seq #[Value.str (Str.ofString "self") 514] }) ::
  (nat_lit 207, { cls := Value.type "tuple", data := Data.seq #[] }) ::
  (nat_lit 209, { cls := Value.type "code", data := Data.fields #[Value.str (Str.ofString "part_count") 510, Value.str (Str.ofString "_Accumulator.part_count") 511, Value.str (Str.ofString "/claim/cut.py") 512, Value.int 135 0, Value.int 1 0, Value.int 0 0, Value.int 0 0, Value.int 3 0, Value.ref 204, Value.bool true, Value.int 276 0, Value.ref 205, Value.none, Value.ref 206, Value.ref 207, Value.ref 208, Value.int 515 0, Value.int 135 0, Value.str (Str.ofString "/claim/cut.py") 516] }) ::
  (nat_lit 210, (by exact fun x _ => x : (x : Obj) → x = o210 → Obj) _ (by conv => rhs; dsimp only [o210, q210])) ::
  (nat_lit 211, { cls := Value.type "tuple", data := Data.seq #[Value.str (Str.ofString "_initial_size") 518] }) ::
  (nat_lit 212, { cls := Value.type "dict", data := Data.dict #[{ hash := PyData.keyHash P (Str.ofString "__module__"), key := Value.str (Str.ofString "__module__") 439, val := Value.str (Str.ofString "cpy313.email.header") 318 }, { hash := PyData.keyHash P (Str.ofString "__firstlineno__"), key := Value.str (Str.ofString "__firstlineno__") 443, val := Value.int 101 442 }, { hash := PyData.keyHash P (Str.ofString "__init__"), key := Value.str (Str.ofString "__init__") 453, val := Value.ref 150 }, { hash := PyData.keyHash P (Str.ofString "push"), key := Value.str (Str.ofString "push") 462, val := Value.ref 157 }, { hash := PyData.keyHash P (Str.ofString "pop_from"), key := Value.str (Str.ofString "pop_from") 472, val := Value.ref 165 }, { hash := PyData.keyHash P (Str.ofString "pop"), key := Value.str (Str.ofString "pop") 480, val := Value.ref 173 }, { hash := PyData.keyHash P (Str.ofString "__len__"), key := Value.str (Str.ofString "__len__") 487, val := Value.ref 180 }, { hash := PyData.keyHash P (Str.ofString "__str__"), key := Value.str (Str.ofString "__str__") 494, val := Value.ref 187 }, { hash := PyData.keyHash P (Str.ofString "reset"), key := Value.str (Str.ofString "reset") 502, val := Value.ref 195 }, { hash := PyData.keyHash P (Str.ofString "is_onlyws"), key := Value.str (Str.ofString "is_onlyws") 509, val := Value.ref 202 }, { hash := PyData.keyHash P (Str.ofString "part_count"), key := Value.str (Str.ofString "part_count") 517, val := Value.ref 210 }, { hash := PyData.keyHash P (Str.ofString "__static_attributes__"), key := Value.str (Str.ofString "__static_attributes__") 519, val := Value.ref 211 }, { hash := PyData.keyHash P (Str.ofString "__dict__"), key := Value.str (Str.ofString "__dict__") 522, val := Value.ref 214 }, { hash := PyData.keyHash P (Str.ofString "__weakref__"), key := Value.str (Str.ofString "__weakref__") 524, val := Value.ref 215 }, { hash := PyData.keyHash P (Str.ofString "__doc__"), key := Value.str (Str.ofString "__doc__") 525, val := Value.none }] 5 }) ::
  (nat_lit 213, { cls := Value.type "type", data := Data.cls { name := Str.ofString "_Accumulator", bases := [Value.type "list"], mro := [Value.ref 213, Value.type "list", Value.type "object"], ns := 212, qualname := Str.ofString "_Accumulator" }, slots := #[some (Value.ref 134), none, some (Value.str (Str.ofString "_Accumulator") 432), some (Value.str (Str.ofString "_Accumulator") 440), some (Value.builtin "list.__new__"), some (Value.bool true)] }) ::
  (nat_lit 214, { cls := Value.type "getset_descriptor", data := Data.fields #[Value.str (Str.ofString "__dict__") 521, Value.ref 213, Value.builtin "function.__dict__", Value.builtin "function.__dict__#set"] }) ::
  (nat_lit 215, { cls := Value.type "getset_descriptor", data := Data.fields #[Value.str (Str.ofString "__weakref__") 523, Value.ref 213, Value.builtin "ExceptionGroup.__weakref__", Value.none] }) ::
  (nat_lit 221, { cls := Value.type "tuple", data := Data.seq #[Value.int 14 0, Value.int 8 0, Value.int 1 0, Value.int 2 0, Value.int 4294967295 0, Value.int 1 0, Value.int 1 0, Value.int 34 0, Value.int 0 0, Value.int 16 0, Value.int 34 0, Value.int 28 0, Value.int 22 0, Value.int 0 0, Value.int 4294967295 0, Value.int 7 0, Value.int 11 0, Value.int 13 0, Value.int 7 0, Value.int 21 0, Value.int 16 0, Value.int 34 0, Value.int 16 0, Value.int 92 0, Value.int 0 0, Value.int 15 0, Value.int 8 0, Value.int 6 0, Value.int 16 0, Value.int 92 0, Value.int 2 0, Value.int 15 0, Value.int 2 0, Value.int 0 0, Value.int 1 0, Value.int 16 0, Value.int 34 0, Value.int 1 0] }) ::
  (nat_lit 222, { cls := Value.type "re.Pattern", data := Data.fields #[Value.bytes #[34, 40, 63, 58, 91, 94, 34, 92, 92, 93, 124, 92, 92, 46, 41, 42, 43, 34] 531, Value.int 0 572, Value.int 0 0, Value.none, Value.none, Value.ref 221, Value.int 1 0] }) ::
  (nat_lit 223, { cls := Value.type "tuple", data := Data.seq #[Value.int 0 574] }) ::
  (nat_lit 224, { cls := Value.type "tuple", data := Data.seq #[] }) ::
  (nat_lit 226, { cls := Value.type "tuple", data := Data.seq #[Value.str (Str.ofString "data") 578, Value.str (Str.ofString "depth") 579] }) ::
  (nat_lit 227, { cls := Value.type "tuple", data := Data.seq #[] }) ::
  (nat_lit 229, { cls := Value.type "code", data := Data.fields #[Value.str (Str.ofString "_paren_depth") 575, Value.str (Str.ofString "_paren_depth") 576, Value.str (Str.ofString "/claim/cut.py") 577, Value.int 139 0, Value.int 2 0, Value.int 0 0, Value.int 0 0, Value.int 3 0, Value.ref 224, Value.bool true, Value.int 276 0, Value.ref 225, Value.none, Value.ref 226, Value.ref 227, Value.ref 228, Value.int 580 0, Value.int 139 0, Value.str (Str.ofString "/claim/cut.py") 581] }) ::
  (nat_lit 230, (by exact fun x _ => x : (x : Obj) → x = o230 → Obj) _ (by conv => rhs; dsimp only [o230, q230])) ::
  (nat_lit 231, { cls := Value.type "tuple", data := Data.seq #[] }) ::
  (nat_lit 233, { cls := Value.type "tuple", data := Data.seq #[Value.str (Str.ofString "data") 588, Value.str (Str.ofString "width") 589, Value.str (Str.ofString "swapped_data") 590, Value.str (Str.ofString "i") 591, Value.str (Str.ofString "j") 592] }) ::
  (nat_lit 234, { cls := Value.type "tuple", data := Data.seq #[] }) ::
  (nat_lit 236, { cls := Value.type "code", data := Data.fields #[Value.str (Str.ofString "_byteswap") 585, Value.str (Str.ofString "_byteswap") 586, Value.str (Str.ofString "/claim/cut.py") 587, Value.int 143 0, Value.int 2 0, Value.int 0 0, Value.int 0 0, Value.int 3 0, Value.ref 231, Value.bool true, Value.int 276 0, Value.ref 232, Value.none, Value.ref 233, Value.ref 234, Value.ref 235, Value.int 593 0, Value.int 143 0, Value.str (Str.ofString "/claim/cut.py") 594] }) ::
  (nat_lit 237, (by exact fun x _ => x : (x : Obj) → x = o237 → Obj) _ (by conv => rhs; dsimp only [o237, q237])) ::
  (nat_lit 238, { cls := Value.type "tuple", data := Data.seq #[] }) ::
  (nat_lit 240, { cls := Value.type "tuple", data := Data.seq #[Value.str (Str.ofString "script") 601, Value.str (Str.ofString "draws") 602, Value.str (Str.ofString "turn") 603, Value.str (Str.ofString "number") 604, Value.str (Str.ofString "marks") 605, Value.str (Str.ofString "pieces") 606, Value.str (Str.ofString "parents") 607, Value.str (Str.ofString "opened") 608, Value.str (Str.ofString "closed") 609, Value.str (Str.ofString "draw") 610, Value.str (Str.ofString "rest") 611, Value.str (Str.ofString "count") 612, Value.str (Str.ofString "step") 613] }) ::
  (nat_lit 241, { cls := Value.type "tuple", data := Data.seq #[] }) ::
  (nat_lit 243, { cls := Value.type "code", data := Data.fields #[Value.str (Str.ofString "_law_forest") 598, Value.str (Str.ofString "_law_forest") 599, Value.str (Str.ofString "/claim/cut.py") 600, Value.int 150 0, Value.int 1 0, Value.int 0 0, Value.int 0 0, Value.int 3 0, Value.ref 238, Value.bool true, Value.int 276 0, Value.ref 239, Value.none, Value.ref 240, Value.ref 241, Value.ref 242, Value.int 614 0, Value.int 150 0, Value.str (Str.ofString "/claim/cut.py") 615] }) ::
  (nat_lit 244, (by exact fun x _ => x : (x : Obj) → x = o244 → Obj) _ (by conv => rhs; dsimp only [o244, q244])) ::
  (nat_lit 245, { cls := Value.type "tuple", data := Data.seq #[] }) ::
  (nat_lit 247, { cls := Value.type "tuple", data := Data.seq #[Value.str (Str.ofString "pieces") 620, Value.str (Str.ofString "maker") 621, Value.str (Str.ofString "piece") 622, Value.str (Str.ofString "waiting") 623, Value.str (Str.ofString "names") 624, Value.str (Str.ofString "word") 625, Value.str (Str.ofString "row") 626, Value.str (Str.ofString "depth") 627] }) ::
  (nat_lit 248, { cls := Value.type "tuple", data := Data.seq #[] }) ::
  (nat_lit 250, { cls := Value.type "code", data := Data.fields #[Value.str (Str.ofString "_law_read") 617, Value.str (Str.ofString "_law_read") 618, Value.str (Str.ofString "/claim/cut.py") 619, Value.int 177 0, Value.int 1 0, Value.int 0 0, Value.int 0 0, Value.int 3 0, Value.ref 245, Value.bool true, Value.int 276 0, Value.ref 246, Value.none, Value.ref 247, Value.ref 248, Value.ref 249, Value.int 628 0, Value.int 177 0, Value.str (Str.ofString "/claim/cut.py") 629] }) ::
  (nat_lit 251, (by exact fun x _ => x : (x : Obj) → x = o251 → Obj) _ (by conv => rhs; dsimp only [o251, q251])) ::
  (nat_lit 252, { cls := Value.type "tuple", data := Data.seq #[] }) ::
  (nat_lit 254, { cls := Value.type "tuple", data := Data.seq #[Value.str (Str.ofString "word") 634, Value.str (Str.ofString "rows") 635, Value.str (Str.ofString "letter") 636, Value.str (Str.ofString "twin") 637, Value.str (Str.ofString "moving") 638, Value.str (Str.ofString "row") 639, Value.str (Str.ofString "behind") 640] }) ::
  (nat_lit 255, { cls := Value.type "tuple", data := Data.seq #[] }) ::
  (nat_lit 257, { cls := Value.type "code", data := Data.fields #[Value.str (Str.ofString "_law_table") 631, Value.str (Str.ofString "_law_table") 632, Value.str (Str.ofString "/claim/cut.py") 633, Value.int 191 0, Value.int 1 0, Value.int 0 0, Value.int 0 0, Value.int 3 0, Value.ref 252, Value.bool true, Value.int 276 0, Value.ref 253, Value.none, Value.ref 254, Value.ref 255, Value.ref 256, Value.int 641 0, Value.int 191 0, Value.str (Str.ofString "/claim/cut.py") 642] }) ::
  (nat_lit 258, (by exact fun x _ => x : (x : Obj) → x = o258 → Obj) _ (by conv => rhs; dsimp only [o258, q258])) ::
  (nat_lit 259, { cls := Value.type "tuple", data := Data.seq #[] }) ::
  (nat_lit 261, { cls := Value.type "tuple", data := Data.seq #[Value.str (Str.ofString "parents") 647, Value.str (Str.ofString "nodes") 648, Value.str (Str.ofString "tall") 649, Value.str (Str.ofString "ways") 650, Value.str (Str.ofString "node") 651, Value.str (Str.ofString "height") 652, Value.str (Str.ofString "over") 653] }) ::
  (nat_lit 262, { cls := Value.type "tuple", data := Data.seq #[] }) ::
  (nat_lit 264, { cls := Value.type "code", data := Data.fields #[Value.str (Str.ofString "_law_ways") 644, Value.str (Str.ofString "_law_ways") 645, Value.str (Str.ofString "/claim/cut.py") 646, Value.int 209 0, Value.int 2 0, Value.int 0 0, Value.int 0 0, Value.int 3 0, Value.ref 259, Value.bool true, Value.int 276 0, Value.ref 260, Value.none, Value.ref 261, Value.ref 262, Value.ref 263, Value.int 654 0, Value.int 209 0, Value.str (Str.ofString "/claim/cut.py") 655] }) ::
  (nat_lit 265, (by exact fun x _ => x : (x : Obj) → x = o265 → Obj) _ (by conv => rhs; dsimp only [o265, q265])) ::
  (nat_lit 266, { cls := Value.type "tuple", data := Data.seq #[] }) ::
  (nat_lit 269, { cls := Value.type "code", data := Data.fields #[Value.str (Str.ofString "_law_told") 657, Value.str (Str.ofString "_law_told") 658, Value.str (Str.ofString "/claim/cut.py") 659, Value.int 223 0, Value.int 2 0, Value.int 0 0, Value.int 0 0, Value.int 3 0, Value.ref 266, Value.bool true, Value.int 276 0, Value.ref 267, Value.none, Value.none, Value.none, Value.ref 268, Value.int 660 0, Value.int 223 0, Value.str (Str.ofString "/claim/cut.py") 661] }) ::
  (nat_lit 270, (by exact fun x _ => x : (x : Obj) → x = o270 → Obj) _ (by conv => rhs; dsimp only [o270, q270])) ::
  (nat_lit 271, { cls := Value.type "tuple", data := Data.seq #[] }) ::
  (nat_lit 274, { cls := Value.type "code", data := Data.fields #[Value.str (Str.ofString "law") 663, Value.str (Str.ofString "law") 664, Value.str (Str.ofString "/claim/cut.py") 665, Value.int 236 0, Value.int 1 0, Value.int 0 0, Value.int 0 0, Value.int 3 0, Value.ref 271, Value.bool true, Value.int 276 0, Value.ref 272, Value.none, Value.none, Value.none, Value.ref 273, Value.int 666 0, Value.int 236 0, Value.str (Str.ofString "/claim/cut.py") 667] }) ::
  (nat_lit 275, (by exact fun x _ => x : (x : Obj) → x = o275 → Obj) _ (by conv => rhs; dsimp only [o275, q275])) :: []
noncomputable def view_39 : Program := { PySem.Challenge.rw_xp0032_01.row.toRowW.1 with main := { PySem.Challenge.rw_xp0032_01.row.toRowW.1.main with body := [topSt 0, topSt 1, topSt 6, topSt 7, topSt 8, topSt 9, topSt 11, topSt 14, topSt 16, topSt 17, topSt 18, topSt 19, topSt 20, topSt 21] } }
end hd
noncomputable def hookC := (kmHook Mine.hd.heap_39 [2,3,32,34,35,37,38,39,40,41,43,44,46,47,48,49,50,52,53,55,56,64,66,67,69,70,71,73,74,76,77,78,80,81,83,84,85,87,88,90,91,92,94,95,97,98,99,101,102,104,105,106,108,109,111,112,113,115,116,118,119,120,122,123,125,126,127,128,129,130,131,134,137,142,143,144,146,147,149,150,151,153,154,156,157,158,159,161,162,164,165,166,167,169,170,172,173,174,176,177,179,180,181,183,184,186,187,188,189,191,192,194,195,196,198,199,201,202,203,204,206,207,209,210,211,212,213,214,215,221,222,223,224,226,227,229,230,231,233,234,236,237,238,240,241,243,244,245,247,248,250,251,252,254,255,257,258,259,261,262,264,265,266,269,270,271,274,275] (fun _ => id rfl) [175, 182, 253])
set_option maxHeartbeats 0
namespace lp
noncomputable def find : List (Nat × Obj) → Nat → Obj
  | [], _ => default
  | (b, o) :: r, k => match Nat.beq b k with
    | true => o
    | false => find r k
noncomputable def a (P : Params) (k : Nat) : Obj := find (Mine.hd.heap_39 P) k
noncomputable def x_42 (P : Params) : Obj := { cls := Value.type "dict", data := Data.dict #[{ hash := PyData.keyHash P (Str.ofString "builtins"), key := Value.str (Str.ofString "builtins") 162, val := Value.ref 4 }, { hash := PyData.keyHash P (Str.ofString "__main__"), key := Value.str (Str.ofString "__main__") 163, val := Value.ref 5 }, { hash := PyData.keyHash P (Str.ofString "_sre"), key := Value.str (Str.ofString "_sre") 244, val := Value.ref 12 }] 3 }
noncomputable def x_44 (P : Params) : Obj := { cls := Value.type "dict", data := Data.dict #[{ hash := PyData.keyHash P (Str.ofString "__name__"), key := Value.str (Str.ofString "__name__") 165, val := Value.str (Str.ofString "__main__") 164 }, { hash := PyData.keyHash P (Str.ofString "__doc__"), key := Value.str (Str.ofString "__doc__") 166, val := Value.none }, { hash := PyData.keyHash P (Str.ofString "__package__"), key := Value.str (Str.ofString "__package__") 167, val := Value.none }, { hash := PyData.keyHash P (Str.ofString "__loader__"), key := Value.str (Str.ofString "__loader__") 168, val := Value.builtin "__main__.__loader__#opaque" }, { hash := PyData.keyHash P (Str.ofString "__spec__"), key := Value.str (Str.ofString "__spec__") 169, val := Value.none }, { hash := PyData.keyHash P (Str.ofString "__annotations__"), key := Value.str (Str.ofString "__annotations__") 170, val := Value.ref 6 }, { hash := PyData.keyHash P (Str.ofString "__builtins__"), key := Value.str (Str.ofString "__builtins__") 171, val := Value.ref 4 }, { hash := PyData.keyHash P (Str.ofString "__file__"), key := Value.str (Str.ofString "__file__") 173, val := Value.str (Str.ofString "/claim/cut.py") 172 }, { hash := PyData.keyHash P (Str.ofString "__cached__"), key := Value.str (Str.ofString "__cached__") 174, val := Value.none }, { hash := PyData.keyHash P (Str.ofString "_sre"), key := Value.str (Str.ofString "_sre") 275, val := Value.ref 12 }] 10 }
noncomputable def x_52 (P : Params) : Obj := { cls := Value.type "dict", data := Data.dict #[{ hash := PyData.keyHash P (Str.ofString "__name__"), key := Value.str (Str.ofString "__name__") 247, val := Value.str (Str.ofString "_sre") 246 }, { hash := PyData.keyHash P (Str.ofString "__doc__"), key := Value.str (Str.ofString "__doc__") 248, val := Value.none }, { hash := PyData.keyHash P (Str.ofString "__package__"), key := Value.str (Str.ofString "__package__") 250, val := Value.str (Str.ofString "") 249 }, { hash := PyData.keyHash P (Str.ofString "__loader__"), key := Value.str (Str.ofString "__loader__") 251, val := Value.builtin "off-the-table:_sre.__loader__:shared#opaque" }, { hash := PyData.keyHash P (Str.ofString "__spec__"), key := Value.str (Str.ofString "__spec__") 252, val := Value.builtin "off-the-table:_sre.__spec__:shared#opaque" }, { hash := PyData.keyHash P (Str.ofString "compile"), key := Value.str (Str.ofString "compile") 253, val := Value.builtin "_sre.compile" }, { hash := PyData.keyHash P (Str.ofString "template"), key := Value.str (Str.ofString "template") 254, val := Value.builtin "off-the-table:_sre.template:shared#opaque" }, { hash := PyData.keyHash P (Str.ofString "getcodesize"), key := Value.str (Str.ofString "getcodesize") 255, val := Value.builtin "off-the-table:_sre.getcodesize:shared#opaque" }, { hash := PyData.keyHash P (Str.ofString "ascii_iscased"), key := Value.str (Str.ofString "ascii_iscased") 256, val := Value.builtin "off-the-table:_sre.ascii_iscased:shared#opaque" }, { hash := PyData.keyHash P (Str.ofString "unicode_iscased"), key := Value.str (Str.ofString "unicode_iscased") 257, val := Value.builtin "off-the-table:_sre.unicode_iscased:shared#opaque" }, { hash := PyData.keyHash P (Str.ofString "ascii_tolower"), key := Value.str (Str.ofString "ascii_tolower") 258, val := Value.builtin "off-the-table:_sre.ascii_tolower:shared#opaque" }, { hash := PyData.keyHash P (Str.ofString "unicode_tolower"), key := Value.str (Str.ofString "unicode_tolower") 259, val := Value.builtin "off-the-table:_sre.unicode_tolower:shared#opaque" }, { hash := PyData.keyHash P (Str.ofString "MAGIC"), key := Value.str (Str.ofString "MAGIC") 261, val := Value.int 20230612 260 }, { hash := PyData.keyHash P (Str.ofString "CODESIZE"), key := Value.str (Str.ofString "CODESIZE") 263, val := Value.int 4 262 }, { hash := PyData.keyHash P (Str.ofString "MAXREPEAT"), key := Value.str (Str.ofString "MAXREPEAT") 265, val := Value.int 4294967295 264 }, { hash := PyData.keyHash P (Str.ofString "MAXGROUPS"), key := Value.str (Str.ofString "MAXGROUPS") 267, val := Value.int 1073741823 266 }, { hash := PyData.keyHash P (Str.ofString "copyright"), key := Value.str (Str.ofString "copyright") 269, val := Value.str (Str.ofString " SRE 2.2.2 Copyright (c) 1997-2002 by Secret Labs AB ") 268 }] 17 }
noncomputable def x_53 : Obj := { cls := Value.type "module", dict := some 11 }
noncomputable def x_54 (P : Params) : Obj := { cls := Value.type "dict", data := Data.dict #[{ hash := PyData.keyHash P (Str.ofString "__module__"), key := Value.str (Str.ofString "__module__") 189, val := Value.str (Str.ofString "_frozen_\x69mportlib") 186 }, { hash := PyData.keyHash P (Str.ofString "__firstlineno__"), key := Value.str (Str.ofString "__firstlineno__") 190, val := Value.int 971 187 }, { hash := PyData.keyHash P (Str.ofString "__doc__"), key := Value.str (Str.ofString "__doc__") 191, val := Value.builtin "_frozen_\x69mportlib.BuiltinImporter.__doc__:str#opaque" }, { hash := PyData.keyHash P (Str.ofString "_ORIGIN"), key := Value.str (Str.ofString "_ORIGIN") 192, val := Value.str (Str.ofString "built-in") 188 }, { hash := PyData.keyHash P (Str.ofString "find_spec"), key := Value.str (Str.ofString "find_spec") 193, val := Value.builtin "_frozen_\x69mportlib.BuiltinImporter.find_spec#opaque" }, { hash := PyData.keyHash P (Str.ofString "create_module"), key := Value.str (Str.ofString "create_module") 194, val := Value.builtin "_frozen_\x69mportlib.BuiltinImporter.create_module#opaque" }, { hash := PyData.keyHash P (Str.ofString "exec_module"), key := Value.str (Str.ofString "exec_module") 195, val := Value.builtin "_frozen_\x69mportlib.BuiltinImporter.exec_module#opaque" }, { hash := PyData.keyHash P (Str.ofString "get_code"), key := Value.str (Str.ofString "get_code") 196, val := Value.builtin "_frozen_\x69mportlib.BuiltinImporter.get_code#opaque" }, { hash := PyData.keyHash P (Str.ofString "get_source"), key := Value.str (Str.ofString "get_source") 197, val := Value.builtin "_frozen_\x69mportlib.BuiltinImporter.get_source#opaque" }, { hash := PyData.keyHash P (Str.ofString "is_package"), key := Value.str (Str.ofString "is_package") 198, val := Value.builtin "_frozen_\x69mportlib.BuiltinImporter.is_package#opaque" }, { hash := PyData.keyHash P (Str.ofString "load_module"), key := Value.str (Str.ofString "load_module") 199, val := Value.builtin "_frozen_\x69mportlib.BuiltinImporter.load_module#opaque" }, { hash := PyData.keyHash P (Str.ofString "__static_attributes__"), key := Value.str (Str.ofString "__static_attributes__") 200, val := Value.ref 15 }, { hash := PyData.keyHash P (Str.ofString "__dict__"), key := Value.str (Str.ofString "__dict__") 202, val := Value.ref 16 }, { hash := PyData.keyHash P (Str.ofString "__weakref__"), key := Value.str (Str.ofString "__weakref__") 204, val := Value.ref 17 }] 14 }
noncomputable def x_55 : Obj := { cls := Value.type "type", data := Data.cls { name := Str.ofString "BuiltinImporter", bases := [Value.type "object"], mro := [Value.ref 14, Value.type "object"], ns := 13, qualname := Str.ofString "BuiltinImporter" } }
noncomputable def x_56 : Obj := { cls := Value.type "tuple", data := Data.seq #[] }
noncomputable def x_57 : Obj := { cls := Value.type "getset_descriptor", data := Data.fields #[Value.str (Str.ofString "__dict__") 201, Value.ref 14, Value.builtin "function.__dict__", Value.builtin "function.__dict__#set"] }
noncomputable def x_58 : Obj := { cls := Value.type "getset_descriptor", data := Data.fields #[Value.str (Str.ofString "__weakref__") 203, Value.ref 14, Value.builtin "ExceptionGroup.__weakref__", Value.none] }
noncomputable def x_59 : Obj := { cls := Value.none, data := Data.seq #[Value.int 13 0, Value.str ⟨#[6, 189, 10, 95, 95, 109, 111, 100, 117, 108, 101, 95, 95, 6, 186, 17, 95, 102, 114, 111, 122, 101, 110, 95, 105, 109, 112, 111, 114, 116, 108, 105, 98, 6, 190, 15, 95, 95, 102, 105, 114, 115, 116, 108, 105, 110, 101, 110, 111, 95, 95, 4, 187, 0, 971, 6, 191, 7, 95, 95, 100, 111, 99, 95, 95, 9, 52, 95, 102, 114, 111, 122, 101, 110, 95, 105, 109, 112, 111, 114, 116, 108, 105, 98, 46, 66, 117, 105, 108, 116, 105, 110, 73, 109, 112, 111, 114, 116, 101, 114, 46, 95, 95, 100, 111, 99, 95, 95, 58, 115, 116, 114, 35, 111, 112, 97, 113, 117, 101, 6, 192, 7, 95, 79, 82, 73, 71, 73, 78, 6, 188, 8, 98, 117, 105, 108, 116, 45, 105, 110, 6, 193, 9, 102, 105, 110, 100, 95, 115, 112, 101, 99, 9, 50, 95, 102, 114, 111, 122, 101, 110, 95, 105, 109, 112, 111, 114, 116, 108, 105, 98, 46, 66, 117, 105, 108, 116, 105, 110, 73, 109, 112, 111, 114, 116, 101, 114, 46, 102, 105, 110, 100, 95, 115, 112, 101, 99, 35, 111, 112, 97, 113, 117, 101, 6, 194, 13, 99, 114, 101, 97, 116, 101, 95, 109, 111, 100, 117, 108, 101, 9, 54, 95, 102, 114, 111, 122, 101, 110, 95, 105, 109, 112, 111, 114, 116, 108, 105, 98, 46, 66, 117, 105, 108, 116, 105, 110, 73, 109, 112, 111, 114, 116, 101, 114, 46, 99, 114, 101, 97, 116, 101, 95, 109, 111, 100, 117, 108, 101, 35, 111, 112, 97, 113, 117, 101, 6, 195, 11, 101, 120, 101, 99, 95, 109, 111, 100, 117, 108, 101, 9, 52, 95, 102, 114, 111, 122, 101, 110, 95, 105, 109, 112, 111, 114, 116, 108, 105, 98, 46, 66, 117, 105, 108, 116, 105, 110, 73, 109, 112, 111, 114, 116, 101, 114, 46, 101, 120, 101, 99, 95, 109, 111, 100, 117, 108, 101, 35, 111, 112, 97, 113, 117, 101, 6, 196, 8, 103, 101, 116, 95, 99, 111, 100, 101, 9, 49, 95, 102, 114, 111, 122, 101, 110, 95, 105, 109, 112, 111, 114, 116, 108, 105, 98, 46, 66, 117, 105, 108, 116, 105, 110, 73, 109, 112, 111, 114, 116, 101, 114, 46, 103, 101, 116, 95, 99, 111, 100, 101, 35, 111, 112, 97, 113, 117, 101, 6, 197, 10, 103, 101, 116, 95, 115, 111, 117, 114, 99, 101, 9, 51, 95, 102, 114, 111, 122, 101, 110, 95, 105, 109, 112, 111, 114, 116, 108, 105, 98, 46, 66, 117, 105, 108, 116, 105, 110, 73, 109, 112, 111, 114, 116, 101, 114, 46, 103, 101, 116, 95, 115, 111, 117, 114, 99, 101, 35, 111, 112, 97, 113, 117, 101, 6, 198, 10, 105, 115, 95, 112, 97, 99, 107, 97, 103, 101, 9, 51, 95, 102, 114, 111, 122, 101, 110, 95, 105, 109, 112, 111, 114, 116, 108, 105, 98, 46, 66, 117, 105, 108, 116, 105, 110, 73, 109, 112, 111, 114, 116, 101, 114, 46, 105, 115, 95, 112, 97, 99, 107, 97, 103, 101, 35, 111, 112, 97, 113, 117, 101, 6, 199, 11, 108, 111, 97, 100, 95, 109, 111, 100, 117, 108, 101, 9, 52, 95, 102, 114, 111, 122, 101, 110, 95, 105, 109, 112, 111, 114, 116, 108, 105, 98, 46, 66, 117, 105, 108, 116, 105, 110, 73, 109, 112, 111, 114, 116, 101, 114, 46, 108, 111, 97, 100, 95, 109, 111, 100, 117, 108, 101, 35, 111, 112, 97, 113, 117, 101, 6, 200, 21, 95, 95, 115, 116, 97, 116, 105, 99, 95, 97, 116, 116, 114, 105, 98, 117, 116, 101, 115, 95, 95, 4, 0, 0, 15, 6, 202, 8, 95, 95, 100, 105, 99, 116, 95, 95, 4, 0, 0, 16, 6, 204, 11, 95, 95, 119, 101, 97, 107, 114, 101, 102, 95, 95, 4, 0, 0, 17]⟩ 0, Value.bool true, Value.bool true, Value.str (Str.ofString "") 205, Value.int 21 0, Value.str ⟨#[6, 227, 10, 95, 95, 109, 111, 100, 117, 108, 101, 95, 95, 6, 217, 17, 95, 102, 114, 111, 122, 101, 110, 95, 105, 109, 112, 111, 114, 116, 108, 105, 98, 6, 228, 15, 95, 95, 102, 105, 114, 115, 116, 108, 105, 110, 101, 110, 111, 95, 95, 4, 218, 0, 562, 6, 229, 7, 95, 95, 100, 111, 99, 95, 95, 9, 47, 95, 102, 114, 111, 122, 101, 110, 95, 105, 109, 112, 111, 114, 116, 108, 105, 98, 46, 77, 111, 100, 117, 108, 101, 83, 112, 101, 99, 46, 95, 95, 100, 111, 99, 95, 95, 58, 115, 116, 114, 35, 111, 112, 97, 113, 117, 101, 6, 230, 8, 95, 95, 105, 110, 105, 116, 95, 95, 9, 44, 95, 102, 114, 111, 122, 101, 110, 95, 105, 109, 112, 111, 114, 116, 108, 105, 98, 46, 77, 111, 100, 117, 108, 101, 83, 112, 101, 99, 46, 95, 95, 105, 110, 105, 116, 95, 95, 35, 111, 112, 97, 113, 117, 101, 6, 231, 8, 95, 95, 114, 101, 112, 114, 95, 95, 9, 44, 95, 102, 114, 111, 122, 101, 110, 95, 105, 109, 112, 111, 114, 116, 108, 105, 98, 46, 77, 111, 100, 117, 108, 101, 83, 112, 101, 99, 46, 95, 95, 114, 101, 112, 114, 95, 95, 35, 111, 112, 97, 113, 117, 101, 6, 232, 6, 95, 95, 101, 113, 95, 95, 9, 42, 95, 102, 114, 111, 122, 101, 110, 95, 105, 109, 112, 111, 114, 116, 108, 105, 98, 46, 77, 111, 100, 117, 108, 101, 83, 112, 101, 99, 46, 95, 95, 101, 113, 95, 95, 35, 111, 112, 97, 113, 117, 101, 6, 233, 6, 99, 97, 99, 104, 101, 100, 9, 42, 95, 102, 114, 111, 122, 101, 110, 95, 105, 109, 112, 111, 114, 116, 108, 105, 98, 46, 77, 111, 100, 117, 108, 101, 83, 112, 101, 99, 46, 99, 97, 99, 104, 101, 100, 35, 111, 112, 97, 113, 117, 101, 6, 234, 6, 112, 97, 114, 101, 110, 116, 9, 42, 95, 102, 114, 111, 122, 101, 110, 95, 105, 109, 112, 111, 114, 116, 108, 105, 98, 46, 77, 111, 100, 117, 108, 101, 83, 112, 101, 99, 46, 112, 97, 114, 101, 110, 116, 35, 111, 112, 97, 113, 117, 101, 6, 235, 12, 104, 97, 115, 95, 108, 111, 99, 97, 116, 105, 111, 110, 9, 48, 95, 102, 114, 111, 122, 101, 110, 95, 105, 109, 112, 111, 114, 116, 108, 105, 98, 46, 77, 111, 100, 117, 108, 101, 83, 112, 101, 99, 46, 104, 97, 115, 95, 108, 111, 99, 97, 116, 105, 111, 110, 35, 111, 112, 97, 113, 117, 101, 6, 236, 21, 95, 95, 115, 116, 97, 116, 105, 99, 95, 97, 116, 116, 114, 105, 98, 117, 116, 101, 115, 95, 95, 4, 0, 0, 23, 6, 238, 8, 95, 95, 100, 105, 99, 116, 95, 95, 4, 0, 0, 24, 6, 240, 11, 95, 95, 119, 101, 97, 107, 114, 101, 102, 95, 95, 4, 0, 0, 25, 6, 241, 8, 95, 95, 104, 97, 115, 104, 95, 95, 0]⟩ 0, Value.bool true, Value.bool true, Value.str (Str.ofString "") 242] 1 }
noncomputable def x_60 : Obj := { cls := Value.type "list", data := Data.seq #[] }
noncomputable def x_61 (P : Params) : Obj := { cls := Value.type "dict", data := Data.dict #[{ hash := PyData.keyHash P (Str.ofString "name"), key := Value.str (Str.ofString "name") 208, val := Value.str (Str.ofString "_sre") 207 }, { hash := PyData.keyHash P (Str.ofString "loader"), key := Value.str (Str.ofString "loader") 209, val := Value.ref 14 }, { hash := PyData.keyHash P (Str.ofString "origin"), key := Value.str (Str.ofString "origin") 210, val := Value.str (Str.ofString "built-in") 184 }, { hash := PyData.keyHash P (Str.ofString "loader_state"), key := Value.str (Str.ofString "loader_state") 211, val := Value.none }, { hash := PyData.keyHash P (Str.ofString "submodule_search_locations"), key := Value.str (Str.ofString "submodule_search_locations") 212, val := Value.none }, { hash := PyData.keyHash P (Str.ofString "_uninitialized_submodules"), key := Value.str (Str.ofString "_uninitialized_submodules") 213, val := Value.ref 19 }, { hash := PyData.keyHash P (Str.ofString "_set_fileattr"), key := Value.str (Str.ofString "_set_fileattr") 214, val := Value.bool false }, { hash := PyData.keyHash P (Str.ofString "_cached"), key := Value.str (Str.ofString "_cached") 215, val := Value.none }, { hash := PyData.keyHash P (Str.ofString "_initializing"), key := Value.str (Str.ofString "_initializing") 243, val := Value.bool false }] 9 }
noncomputable def x_62 (P : Params) : Obj := { cls := Value.type "dict", data := Data.dict #[{ hash := PyData.keyHash P (Str.ofString "__module__"), key := Value.str (Str.ofString "__module__") 227, val := Value.str (Str.ofString "_frozen_\x69mportlib") 217 }, { hash := PyData.keyHash P (Str.ofString "__firstlineno__"), key := Value.str (Str.ofString "__firstlineno__") 228, val := Value.int 562 218 }, { hash := PyData.keyHash P (Str.ofString "__doc__"), key := Value.str (Str.ofString "__doc__") 229, val := Value.builtin "_frozen_\x69mportlib.ModuleSpec.__doc__:str#opaque" }, { hash := PyData.keyHash P (Str.ofString "__init__"), key := Value.str (Str.ofString "__init__") 230, val := Value.builtin "_frozen_\x69mportlib.ModuleSpec.__init__#opaque" }, { hash := PyData.keyHash P (Str.ofString "__repr__"), key := Value.str (Str.ofString "__repr__") 231, val := Value.builtin "_frozen_\x69mportlib.ModuleSpec.__repr__#opaque" }, { hash := PyData.keyHash P (Str.ofString "__eq__"), key := Value.str (Str.ofString "__eq__") 232, val := Value.builtin "_frozen_\x69mportlib.ModuleSpec.__eq__#opaque" }, { hash := PyData.keyHash P (Str.ofString "cached"), key := Value.str (Str.ofString "cached") 233, val := Value.builtin "_frozen_\x69mportlib.ModuleSpec.cached#opaque" }, { hash := PyData.keyHash P (Str.ofString "parent"), key := Value.str (Str.ofString "parent") 234, val := Value.builtin "_frozen_\x69mportlib.ModuleSpec.parent#opaque" }, { hash := PyData.keyHash P (Str.ofString "has_location"), key := Value.str (Str.ofString "has_location") 235, val := Value.builtin "_frozen_\x69mportlib.ModuleSpec.has_location#opaque" }, { hash := PyData.keyHash P (Str.ofString "__static_attributes__"), key := Value.str (Str.ofString "__static_attributes__") 236, val := Value.ref 23 }, { hash := PyData.keyHash P (Str.ofString "__dict__"), key := Value.str (Str.ofString "__dict__") 238, val := Value.ref 24 }, { hash := PyData.keyHash P (Str.ofString "__weakref__"), key := Value.str (Str.ofString "__weakref__") 240, val := Value.ref 25 }, { hash := PyData.keyHash P (Str.ofString "__hash__"), key := Value.str (Str.ofString "__hash__") 241, val := Value.none }] 13 }
noncomputable def x_63 : Obj := { cls := Value.type "type", data := Data.cls { name := Str.ofString "ModuleSpec", bases := [Value.type "object"], mro := [Value.ref 22, Value.type "object"], ns := 21, qualname := Str.ofString "ModuleSpec" } }
noncomputable def x_64 : Obj := { cls := Value.type "tuple", data := Data.seq #[Value.str (Str.ofString "_cached") 219, Value.str (Str.ofString "_set_fileattr") 220, Value.str (Str.ofString "_uninitialized_submodules") 221, Value.str (Str.ofString "loader") 222, Value.str (Str.ofString "loader_state") 223, Value.str (Str.ofString "name") 224, Value.str (Str.ofString "origin") 225, Value.str (Str.ofString "submodule_search_locations") 226] }
noncomputable def x_65 : Obj := { cls := Value.type "getset_descriptor", data := Data.fields #[Value.str (Str.ofString "__dict__") 237, Value.ref 22, Value.builtin "function.__dict__", Value.builtin "function.__dict__#set"] }
noncomputable def x_66 : Obj := { cls := Value.type "getset_descriptor", data := Data.fields #[Value.str (Str.ofString "__weakref__") 239, Value.ref 22, Value.builtin "ExceptionGroup.__weakref__", Value.none] }
noncomputable def x_67 : Obj := { cls := Value.ref 22, dict := some 20 }
noncomputable def x_68 : Obj := { cls := Value.none, data := Data.seq #[Value.int 11 0, Value.str { cps := #[6, 247, 8, 95, 95, 110, 97, 109, 101, 95, 95, 6, 246, 4, 95, 115, 114, 101, 6, 248, 7, 95, 95, 100, 111, 99, 95, 95, 0, 6, 250, 11, 95, 95, 112, 97, 99, 107, 97, 103, 101, 95, 95, 6, 249, 0, 6, 251, 10, 95, 95, 108, 111, 97, 100, 101, 114, 95, 95, 4, 0, 0, 14, 6, 252, 8, 95, 95, 115, 112, 101, 99, 95, 95, 4, 0, 0, 26, 6, 253, 7, 99, 111, 109, 112, 105, 108, 101, 9, 12, 95, 115, 114, 101, 46, 99, 111, 109, 112, 105, 108, 101, 6, 254, 8, 116, 101, 109, 112, 108, 97, 116, 101, 9, 13, 95, 115, 114, 101, 46, 116, 101, 109, 112, 108, 97, 116, 101, 6, 255, 11, 103, 101, 116, 99, 111, 100, 101, 115, 105, 122, 101, 9, 16, 95, 115, 114, 101, 46, 103, 101, 116, 99, 111, 100, 101, 115, 105, 122, 101, 6, 256, 13, 97, 115, 99, 105, 105, 95, 105, 115, 99, 97, 115, 101, 100, 9, 18, 95, 115, 114, 101, 46, 97, 115, 99, 105, 105, 95, 105, 115, 99, 97, 115, 101, 100, 6, 257, 15, 117, 110, 105, 99, 111, 100, 101, 95, 105, 115, 99, 97, 115, 101, 100, 9, 20, 95, 115, 114, 101, 46, 117, 110, 105, 99, 111, 100, 101, 95, 105, 115, 99, 97, 115, 101, 100, 6, 258, 13, 97, 115, 99, 105, 105, 95, 116, 111, 108, 111, 119, 101, 114, 9, 18, 95, 115, 114, 101, 46, 97, 115, 99, 105, 105, 95, 116, 111, 108, 111, 119, 101, 114, 6, 259, 15, 117, 110, 105, 99, 111, 100, 101, 95, 116, 111, 108, 111, 119, 101, 114, 9, 20, 95, 115, 114, 101, 46, 117, 110, 105, 99, 111, 100, 101, 95, 116, 111, 108, 111, 119, 101, 114, 6, 261, 5, 77, 65, 71, 73, 67, 4, 260, 0, 20230612, 6, 263, 8, 67, 79, 68, 69, 83, 73, 90, 69, 4, 262, 0, 4, 6, 265, 9, 77, 65, 88, 82, 69, 80, 69, 65, 84, 4, 264, 0, 4294967295, 6, 267, 9, 77, 65, 88, 71, 82, 79, 85, 80, 83, 4, 266, 0, 1073741823, 6, 269, 9, 99, 111, 112, 121, 114, 105, 103, 104, 116, 6, 268, 53, 32, 83, 82, 69, 32, 50, 46, 50, 46, 50, 32, 67, 111, 112, 121, 114, 105, 103, 104, 116, 32, 40, 99, 41, 32, 49, 57, 57, 55, 45, 50, 48, 48, 50, 32, 98, 121, 32, 83, 101, 99, 114, 101, 116, 32, 76, 97, 98, 115, 32, 65, 66, 32] } 0, Value.bool true, Value.bool false, Value.str (Str.ofString "_sre") 271] }
noncomputable def x_69 : Obj := { cls := Value.type "tuple", data := Data.seq #[] }
noncomputable def x_70 : Obj := { cls := Value.none, data := Data.fields #[] }
noncomputable def x_71 : Obj := { cls := Value.type "code", data := Data.fields #[Value.str (Str.ofString "<module>") 277, Value.str (Str.ofString "<module>") 278, Value.str (Str.ofString "/claim/cut.py") 279, Value.int 1 0, Value.int 0 0, Value.int 0 0, Value.int 0 0, Value.int 0 0, Value.ref 28, Value.bool false, Value.int 276 0, Value.ref 29, Value.none, Value.none, Value.none, Value.none, Value.int 280 0, Value.int 1 0, Value.str (Str.ofString "/claim/cut.py") 281] }
noncomputable def x_72 : Obj := { cls := Value.type "frame", slots := #[some (Value.ref 30), some (Value.ref 3), some (Value.ref 3), none, some (Value.str (Str.ofString "__main__") 164), none, some (Value.ref 0)] }
noncomputable def x_75 (P : Params) : Obj := { cls := Value.type "dict", data := Data.dict #[{ hash := PyData.keyHash P (Str.ofString "__name__"), key := Value.str (Str.ofString "__name__") 165, val := Value.str (Str.ofString "cpy313.email.header") 318 }, { hash := PyData.keyHash P (Str.ofString "__doc__"), key := Value.str (Str.ofString "__doc__") 166, val := Value.none }, { hash := PyData.keyHash P (Str.ofString "__package__"), key := Value.str (Str.ofString "__package__") 167, val := Value.none }, { hash := PyData.keyHash P (Str.ofString "__loader__"), key := Value.str (Str.ofString "__loader__") 168, val := Value.builtin "__main__.__loader__#opaque" }, { hash := PyData.keyHash P (Str.ofString "__spec__"), key := Value.str (Str.ofString "__spec__") 169, val := Value.none }, { hash := PyData.keyHash P (Str.ofString "__annotations__"), key := Value.str (Str.ofString "__annotations__") 170, val := Value.ref 6 }, { hash := PyData.keyHash P (Str.ofString "__builtins__"), key := Value.str (Str.ofString "__builtins__") 171, val := Value.ref 4 }, { hash := PyData.keyHash P (Str.ofString "__file__"), key := Value.str (Str.ofString "__file__") 173, val := Value.str (Str.ofString "/claim/cut.py") 172 }, { hash := PyData.keyHash P (Str.ofString "__cached__"), key := Value.str (Str.ofString "__cached__") 174, val := Value.none }, { hash := PyData.keyHash P (Str.ofString "_sre"), key := Value.str (Str.ofString "_sre") 275, val := Value.ref 12 }, { hash := PyData.keyHash P (Str.ofString "_wall"), key := Value.str (Str.ofString "_wall") 288, val := Value.ref 38 }, { hash := PyData.keyHash P (Str.ofString "insort_left"), key := Value.str (Str.ofString "insort_left") 303, val := Value.ref 47 }, { hash := PyData.keyHash P (Str.ofString "bisect_left"), key := Value.str (Str.ofString "bisect_left") 317, val := Value.ref 56 }, { hash := PyData.keyHash P (Str.ofString "NL"), key := Value.str (Str.ofString "NL") 321, val := Value.str (Str.ofString "\n") 320 }, { hash := PyData.keyHash P (Str.ofString "EMPTYSTRING"), key := Value.str (Str.ofString "EMPTYSTRING") 323, val := Value.str (Str.ofString "") 322 }] 15 }
noncomputable def x_76 : Obj := { cls := Value.none, data := Data.fields #[Value.int 2 0, Value.int 0 0, Value.ref 37, Value.int 6 0, Value.int 0 0, Value.ref 46, Value.int 12 0, Value.int 0 0, Value.ref 55] }
noncomputable def x_78 : Obj := { cls := Value.none, data := Data.fields #[] }
noncomputable def x_81 : Obj := { cls := Value.none, data := Data.func { name := Str.ofString "_wall", qualname := Str.ofString "_wall", params := q38.1.1, body := FuncBody.stmts q38.1.2.1, scope := q38.1.2.2, globals := 0, closure := [], defaults := Value.none, kwdefaults := Value.none } }
noncomputable def x_87 : Obj := { cls := Value.none, data := Data.fields #[] }
noncomputable def x_90 : Obj := { cls := Value.none, data := Data.func { name := Str.ofString "insort_left", qualname := Str.ofString "insort_left", params := q47.1.1, body := FuncBody.stmts q47.1.2.1, scope := q47.1.2.2, globals := 0, closure := [], defaults := Value.none, kwdefaults := Value.none } }
noncomputable def x_96 : Obj := { cls := Value.none, data := Data.fields #[] }
noncomputable def x_99 : Obj := { cls := Value.none, data := Data.func { name := Str.ofString "bisect_left", qualname := Str.ofString "bisect_left", params := q56.1.1, body := FuncBody.stmts q56.1.2.1, scope := q56.1.2.2, globals := 0, closure := [], defaults := Value.none, kwdefaults := Value.none } }
noncomputable def x_102 (P : Params) : Obj := { cls := Value.type "dict", data := Data.dict #[{ hash := PyData.keyHash P (Str.ofString "__name__"), key := Value.str (Str.ofString "__name__") 165, val := Value.str (Str.ofString "cpy313.email.header") 318 }, { hash := PyData.keyHash P (Str.ofString "__doc__"), key := Value.str (Str.ofString "__doc__") 166, val := Value.none }, { hash := PyData.keyHash P (Str.ofString "__package__"), key := Value.str (Str.ofString "__package__") 167, val := Value.none }, { hash := PyData.keyHash P (Str.ofString "__loader__"), key := Value.str (Str.ofString "__loader__") 168, val := Value.builtin "__main__.__loader__#opaque" }, { hash := PyData.keyHash P (Str.ofString "__spec__"), key := Value.str (Str.ofString "__spec__") 169, val := Value.none }, { hash := PyData.keyHash P (Str.ofString "__annotations__"), key := Value.str (Str.ofString "__annotations__") 170, val := Value.ref 6 }, { hash := PyData.keyHash P (Str.ofString "__builtins__"), key := Value.str (Str.ofString "__builtins__") 171, val := Value.ref 4 }, { hash := PyData.keyHash P (Str.ofString "__file__"), key := Value.str (Str.ofString "__file__") 173, val := Value.str (Str.ofString "/claim/cut.py") 172 }, { hash := PyData.keyHash P (Str.ofString "__cached__"), key := Value.str (Str.ofString "__cached__") 174, val := Value.none }, { hash := PyData.keyHash P (Str.ofString "_sre"), key := Value.str (Str.ofString "_sre") 275, val := Value.ref 12 }, { hash := PyData.keyHash P (Str.ofString "_wall"), key := Value.str (Str.ofString "_wall") 288, val := Value.ref 38 }, { hash := PyData.keyHash P (Str.ofString "insort_left"), key := Value.str (Str.ofString "insort_left") 303, val := Value.ref 47 }, { hash := PyData.keyHash P (Str.ofString "bisect_left"), key := Value.str (Str.ofString "bisect_left") 317, val := Value.ref 56 }, { hash := PyData.keyHash P (Str.ofString "NL"), key := Value.str (Str.ofString "NL") 321, val := Value.str (Str.ofString "\n") 320 }, { hash := PyData.keyHash P (Str.ofString "EMPTYSTRING"), key := Value.str (Str.ofString "EMPTYSTRING") 323, val := Value.str (Str.ofString "") 322 }, { hash := PyData.keyHash P (Str.ofString "_ValueFormatter"), key := Value.str (Str.ofString "_ValueFormatter") 431, val := Value.ref 129 }] 16 }
noncomputable def x_103 : Obj := { cls := Value.none, data := Data.fields #[Value.int 2 0, Value.int 0 0, Value.ref 37, Value.int 6 0, Value.int 0 0, Value.ref 46, Value.int 12 0, Value.int 0 0, Value.ref 55, Value.int 35 0, Value.int 0 0, Value.ref 62] }
noncomputable def x_104 : Obj := { cls := Value.type "tuple", data := Data.seq #[] }
noncomputable def x_105 : Obj := { cls := Value.type "builtin_function_or_method", data := Data.fields #[Value.builtin "type.__prepare__", Value.type "type"] }
noncomputable def x_106 (P : Params) : Obj := { cls := Value.type "dict", data := Data.dict #[{ hash := PyData.keyHash P (Str.ofString "__module__"), key := Value.str (Str.ofString "__module__") 331, val := Value.str (Str.ofString "cpy313.email.header") 318 }, { hash := PyData.keyHash P (Str.ofString "__qualname__"), key := Value.str (Str.ofString "__qualname__") 333, val := Value.str (Str.ofString "_ValueFormatter") 332 }, { hash := PyData.keyHash P (Str.ofString "__firstlineno__"), key := Value.str (Str.ofString "__firstlineno__") 335, val := Value.int 35 334 }, { hash := PyData.keyHash P (Str.ofString "__init__"), key := Value.str (Str.ofString "__init__") 346, val := Value.ref 70 }, { hash := PyData.keyHash P (Str.ofString "_str"), key := Value.str (Str.ofString "_str") 354, val := Value.ref 77 }, { hash := PyData.keyHash P (Str.ofString "__str__"), key := Value.str (Str.ofString "__str__") 361, val := Value.ref 84 }, { hash := PyData.keyHash P (Str.ofString "newline"), key := Value.str (Str.ofString "newline") 369, val := Value.ref 91 }, { hash := PyData.keyHash P (Str.ofString "add_transition"), key := Value.str (Str.ofString "add_transition") 376, val := Value.ref 98 }, { hash := PyData.keyHash P (Str.ofString "feed"), key := Value.str (Str.ofString "feed") 386, val := Value.ref 105 }, { hash := PyData.keyHash P (Str.ofString "_maxlengths"), key := Value.str (Str.ofString "_maxlengths") 393, val := Value.ref 112 }, { hash := PyData.keyHash P (Str.ofString "_ascii_split"), key := Value.str (Str.ofString "_ascii_split") 403, val := Value.ref 119 }, { hash := PyData.keyHash P (Str.ofString "_append_chunk"), key := Value.str (Str.ofString "_append_chunk") 417, val := Value.ref 126 }, { hash := PyData.keyHash P (Str.ofString "__static_attributes__"), key := Value.str (Str.ofString "__static_attributes__") 424, val := Value.ref 127 }] 13 }
noncomputable def x_107 : Obj := { cls := Value.type "tuple", data := Data.seq #[] }
noncomputable def x_108 : Obj := { cls := Value.none, data := Data.fields #[Value.int 37 0, Value.int 4 0, Value.ref 69, Value.int 45 0, Value.int 4 0, Value.ref 76, Value.int 49 0, Value.int 4 0, Value.ref 83, Value.int 52 0, Value.int 4 0, Value.ref 90, Value.int 63 0, Value.int 4 0, Value.ref 97, Value.int 66 0, Value.int 4 0, Value.ref 104, Value.int 69 0, Value.int 4 0, Value.ref 111, Value.int 72 0, Value.int 4 0, Value.ref 118, Value.int 75 0, Value.int 4 0, Value.ref 125] }
noncomputable def x_109 : Obj := { cls := Value.type "code", data := Data.fields #[Value.str (Str.ofString "_ValueFormatter") 326, Value.str (Str.ofString "_ValueFormatter") 327, Value.str (Str.ofString "/claim/cut.py") 328, Value.int 35 0, Value.int 0 0, Value.int 0 0, Value.int 0 0, Value.int 0 0, Value.ref 60, Value.bool false, Value.int 276 0, Value.ref 61, Value.none, Value.none, Value.none, Value.none, Value.int 329 0, Value.int 35 0, Value.str (Str.ofString "/claim/cut.py") 330] }
noncomputable def x_110 : Obj := { cls := Value.type "frame", slots := #[some (Value.ref 62), some (Value.ref 3), some (Value.ref 59), none, some (Value.str (Str.ofString "cpy313.email.header") 318), none, some (Value.ref 0)] }
noncomputable def x_112 : Obj := { cls := Value.none, data := Data.fields #[] }
noncomputable def x_115 : Obj := { cls := Value.none, data := Data.func { name := Str.ofString "__init__", qualname := Str.ofString "_ValueFormatter.__init__", params := q70.1.1, body := FuncBody.stmts q70.1.2.1, scope := q70.1.2.2, globals := 0, closure := [], defaults := Value.none, kwdefaults := Value.none } }
noncomputable def x_119 : Obj := { cls := Value.none, data := Data.fields #[] }
noncomputable def x_122 : Obj := { cls := Value.none, data := Data.func { name := Str.ofString "_str", qualname := Str.ofString "_ValueFormatter._str", params := q77.1.1, body := FuncBody.stmts q77.1.2.1, scope := q77.1.2.2, globals := 0, closure := [], defaults := Value.none, kwdefaults := Value.none } }
noncomputable def x_126 : Obj := { cls := Value.none, data := Data.fields #[] }
noncomputable def x_129 : Obj := { cls := Value.none, data := Data.func { name := Str.ofString "__str__", qualname := Str.ofString "_ValueFormatter.__str__", params := q84.1.1, body := FuncBody.stmts q84.1.2.1, scope := q84.1.2.2, globals := 0, closure := [], defaults := Value.none, kwdefaults := Value.none } }
noncomputable def x_133 : Obj := { cls := Value.none, data := Data.fields #[] }
noncomputable def x_136 : Obj := { cls := Value.none, data := Data.func { name := Str.ofString "newline", qualname := Str.ofString "_ValueFormatter.newline", params := q91.1.1, body := FuncBody.stmts q91.1.2.1, scope := q91.1.2.2, globals := 0, closure := [], defaults := Value.none, kwdefaults := Value.none } }
noncomputable def x_140 : Obj := { cls := Value.none, data := Data.fields #[] }
noncomputable def x_143 : Obj := { cls := Value.none, data := Data.func { name := Str.ofString "add_transition", qualname := Str.ofString "_ValueFormatter.add_transition", params := q98.1.1, body := FuncBody.stmts q98.1.2.1, scope := q98.1.2.2, globals := 0, closure := [], defaults := Value.none, kwdefaults := Value.none } }
noncomputable def x_147 : Obj := { cls := Value.none, data := Data.fields #[] }
noncomputable def x_150 : Obj := { cls := Value.none, data := Data.func { name := Str.ofString "feed", qualname := Str.ofString "_ValueFormatter.feed", params := q105.1.1, body := FuncBody.stmts q105.1.2.1, scope := q105.1.2.2, globals := 0, closure := [], defaults := Value.none, kwdefaults := Value.none } }
noncomputable def x_154 : Obj := { cls := Value.none, data := Data.fields #[] }
noncomputable def x_157 : Obj := { cls := Value.none, data := Data.func { name := Str.ofString "_maxlengths", qualname := Str.ofString "_ValueFormatter._maxlengths", params := q112.1.1, body := FuncBody.stmts q112.1.2.1, scope := q112.1.2.2, globals := 0, closure := [], defaults := Value.none, kwdefaults := Value.none } }
noncomputable def x_161 : Obj := { cls := Value.none, data := Data.fields #[] }
noncomputable def x_164 : Obj := { cls := Value.none, data := Data.func { name := Str.ofString "_ascii_split", qualname := Str.ofString "_ValueFormatter._ascii_split", params := q119.1.1, body := FuncBody.stmts q119.1.2.1, scope := q119.1.2.2, globals := 0, closure := [], defaults := Value.none, kwdefaults := Value.none } }
noncomputable def x_168 : Obj := { cls := Value.none, data := Data.fields #[] }
noncomputable def x_171 : Obj := { cls := Value.none, data := Data.func { name := Str.ofString "_append_chunk", qualname := Str.ofString "_ValueFormatter._append_chunk", params := q126.1.1, body := FuncBody.stmts q126.1.2.1, scope := q126.1.2.2, globals := 0, closure := [], defaults := Value.none, kwdefaults := Value.none } }
noncomputable def x_179 : Obj := { cls := Value.type "super", data := Data.fields #[Value.ref 129, Value.ref 129, Value.ref 129] }
noncomputable def x_180 : Obj := { cls := Value.type "builtin_function_or_method", data := Data.fields #[Value.builtin "object.__init_subclass__", Value.ref 129] }
noncomputable def x_181 (P : Params) : Obj := { cls := Value.type "dict", data := Data.dict #[{ hash := PyData.keyHash P (Str.ofString "__name__"), key := Value.str (Str.ofString "__name__") 165, val := Value.str (Str.ofString "cpy313.email.header") 318 }, { hash := PyData.keyHash P (Str.ofString "__doc__"), key := Value.str (Str.ofString "__doc__") 166, val := Value.none }, { hash := PyData.keyHash P (Str.ofString "__package__"), key := Value.str (Str.ofString "__package__") 167, val := Value.none }, { hash := PyData.keyHash P (Str.ofString "__loader__"), key := Value.str (Str.ofString "__loader__") 168, val := Value.builtin "__main__.__loader__#opaque" }, { hash := PyData.keyHash P (Str.ofString "__spec__"), key := Value.str (Str.ofString "__spec__") 169, val := Value.none }, { hash := PyData.keyHash P (Str.ofString "__annotations__"), key := Value.str (Str.ofString "__annotations__") 170, val := Value.ref 6 }, { hash := PyData.keyHash P (Str.ofString "__builtins__"), key := Value.str (Str.ofString "__builtins__") 171, val := Value.ref 4 }, { hash := PyData.keyHash P (Str.ofString "__file__"), key := Value.str (Str.ofString "__file__") 173, val := Value.str (Str.ofString "/claim/cut.py") 172 }, { hash := PyData.keyHash P (Str.ofString "__cached__"), key := Value.str (Str.ofString "__cached__") 174, val := Value.none }, { hash := PyData.keyHash P (Str.ofString "_sre"), key := Value.str (Str.ofString "_sre") 275, val := Value.ref 12 }, { hash := PyData.keyHash P (Str.ofString "_wall"), key := Value.str (Str.ofString "_wall") 288, val := Value.ref 38 }, { hash := PyData.keyHash P (Str.ofString "insort_left"), key := Value.str (Str.ofString "insort_left") 303, val := Value.ref 47 }, { hash := PyData.keyHash P (Str.ofString "bisect_left"), key := Value.str (Str.ofString "bisect_left") 317, val := Value.ref 56 }, { hash := PyData.keyHash P (Str.ofString "NL"), key := Value.str (Str.ofString "NL") 321, val := Value.str (Str.ofString "\n") 320 }, { hash := PyData.keyHash P (Str.ofString "EMPTYSTRING"), key := Value.str (Str.ofString "EMPTYSTRING") 323, val := Value.str (Str.ofString "") 322 }, { hash := PyData.keyHash P (Str.ofString "_ValueFormatter"), key := Value.str (Str.ofString "_ValueFormatter") 431, val := Value.ref 129 }, { hash := PyData.keyHash P (Str.ofString "_Accumulator"), key := Value.str (Str.ofString "_Accumulator") 527, val := Value.ref 213 }] 17 }
noncomputable def x_182 : Obj := { cls := Value.none, data := Data.fields #[Value.int 2 0, Value.int 0 0, Value.ref 37, Value.int 6 0, Value.int 0 0, Value.ref 46, Value.int 12 0, Value.int 0 0, Value.ref 55, Value.int 35 0, Value.int 0 0, Value.ref 62, Value.int 101 0, Value.int 0 0, Value.ref 140] }
noncomputable def x_184 : Obj := { cls := Value.type "builtin_function_or_method", data := Data.fields #[Value.builtin "type.__prepare__", Value.type "type"] }
noncomputable def x_185 (P : Params) : Obj := { cls := Value.type "dict", data := Data.dict #[{ hash := PyData.keyHash P (Str.ofString "__module__"), key := Value.str (Str.ofString "__module__") 439, val := Value.str (Str.ofString "cpy313.email.header") 318 }, { hash := PyData.keyHash P (Str.ofString "__qualname__"), key := Value.str (Str.ofString "__qualname__") 441, val := Value.str (Str.ofString "_Accumulator") 440 }, { hash := PyData.keyHash P (Str.ofString "__firstlineno__"), key := Value.str (Str.ofString "__firstlineno__") 443, val := Value.int 101 442 }, { hash := PyData.keyHash P (Str.ofString "__init__"), key := Value.str (Str.ofString "__init__") 453, val := Value.ref 150 }, { hash := PyData.keyHash P (Str.ofString "push"), key := Value.str (Str.ofString "push") 462, val := Value.ref 157 }, { hash := PyData.keyHash P (Str.ofString "pop_from"), key := Value.str (Str.ofString "pop_from") 472, val := Value.ref 165 }, { hash := PyData.keyHash P (Str.ofString "pop"), key := Value.str (Str.ofString "pop") 480, val := Value.ref 173 }, { hash := PyData.keyHash P (Str.ofString "__len__"), key := Value.str (Str.ofString "__len__") 487, val := Value.ref 180 }, { hash := PyData.keyHash P (Str.ofString "__str__"), key := Value.str (Str.ofString "__str__") 494, val := Value.ref 187 }, { hash := PyData.keyHash P (Str.ofString "reset"), key := Value.str (Str.ofString "reset") 502, val := Value.ref 195 }, { hash := PyData.keyHash P (Str.ofString "is_onlyws"), key := Value.str (Str.ofString "is_onlyws") 509, val := Value.ref 202 }, { hash := PyData.keyHash P (Str.ofString "part_count"), key := Value.str (Str.ofString "part_count") 517, val := Value.ref 210 }, { hash := PyData.keyHash P (Str.ofString "__static_attributes__"), key := Value.str (Str.ofString "__static_attributes__") 519, val := Value.ref 211 }, { hash := PyData.keyHash P (Str.ofString "__classcell__"), key := Value.str (Str.ofString "__classcell__") 520, val := Value.ref 137 }] 14 }
noncomputable def x_187 : Obj := { cls := Value.type "tuple", data := Data.seq #[] }
noncomputable def x_188 : Obj := { cls := Value.none, data := Data.fields #[Value.int 103 0, Value.int 4 0, Value.ref 149, Value.int 107 0, Value.int 4 0, Value.ref 156, Value.int 110 0, Value.int 4 0, Value.ref 164, Value.int 115 0, Value.int 4 0, Value.ref 172, Value.int 120 0, Value.int 4 0, Value.ref 179, Value.int 123 0, Value.int 4 0, Value.ref 186, Value.int 126 0, Value.int 4 0, Value.ref 194, Value.int 132 0, Value.int 4 0, Value.ref 201, Value.int 135 0, Value.int 4 0, Value.ref 209] }
noncomputable def x_189 : Obj := { cls := Value.type "code", data := Data.fields #[Value.str (Str.ofString "_Accumulator") 434, Value.str (Str.ofString "_Accumulator") 435, Value.str (Str.ofString "/claim/cut.py") 436, Value.int 101 0, Value.int 0 0, Value.int 0 0, Value.int 0 0, Value.int 0 0, Value.ref 138, Value.bool false, Value.int 276 0, Value.ref 139, Value.none, Value.none, Value.none, Value.none, Value.int 437 0, Value.int 101 0, Value.str (Str.ofString "/claim/cut.py") 438] }
noncomputable def x_190 : Obj := { cls := Value.type "frame", slots := #[some (Value.ref 140), some (Value.ref 3), some (Value.ref 136), none, some (Value.str (Str.ofString "cpy313.email.header") 318), none, some (Value.ref 0)] }
noncomputable def x_194 : Obj := { cls := Value.none, data := Data.fields #[] }
noncomputable def x_197 : Obj := { cls := Value.none, data := Data.func { name := Str.ofString "__init__", qualname := Str.ofString "_Accumulator.__init__", params := q150.1.1, body := FuncBody.stmts q150.1.2.1, scope := q150.1.2.2, globals := 0, closure := [], defaults := Value.none, kwdefaults := Value.none } }
noncomputable def x_201 : Obj := { cls := Value.none, data := Data.fields #[] }
noncomputable def x_204 : Obj := { cls := Value.none, data := Data.func { name := Str.ofString "push", qualname := Str.ofString "_Accumulator.push", params := q157.1.1, body := FuncBody.stmts q157.1.2.1, scope := q157.1.2.2, globals := 0, closure := [], defaults := Value.none, kwdefaults := Value.none } }
noncomputable def x_209 : Obj := { cls := Value.none, data := Data.fields #[] }
noncomputable def x_212 : Obj := { cls := Value.none, data := Data.func { name := Str.ofString "pop_from", qualname := Str.ofString "_Accumulator.pop_from", params := q165.1.1, body := FuncBody.stmts q165.1.2.1, scope := q165.1.2.2, globals := 0, closure := [], defaults := Value.none, kwdefaults := Value.none } }
noncomputable def x_217 : Obj := { cls := Value.none, data := Data.fields #[] }
noncomputable def x_220 : Obj := { cls := Value.none, data := Data.func { name := Str.ofString "pop", qualname := Str.ofString "_Accumulator.pop", params := q173.1.1, body := FuncBody.stmts q173.1.2.1, scope := q173.1.2.2, globals := 0, closure := [], defaults := Value.none, kwdefaults := Value.none } }
noncomputable def x_224 : Obj := { cls := Value.none, data := Data.fields #[] }
noncomputable def x_227 : Obj := { cls := Value.none, data := Data.func { name := Str.ofString "__len__", qualname := Str.ofString "_Accumulator.__len__", params := q180.1.1, body := FuncBody.stmts q180.1.2.1, scope := q180.1.2.2, globals := 0, closure := [], defaults := Value.none, kwdefaults := Value.none } }
noncomputable def x_231 : Obj := { cls := Value.none, data := Data.fields #[] }
noncomputable def x_234 : Obj := { cls := Value.none, data := Data.func { name := Str.ofString "__str__", qualname := Str.ofString "_Accumulator.__str__", params := q187.1.1, body := FuncBody.stmts q187.1.2.1, scope := q187.1.2.2, globals := 0, closure := [], defaults := Value.none, kwdefaults := Value.none } }
noncomputable def x_239 : Obj := { cls := Value.none, data := Data.fields #[] }
noncomputable def x_242 : Obj := { cls := Value.none, data := Data.func { name := Str.ofString "reset", qualname := Str.ofString "_Accumulator.reset", params := q195.1.1, body := FuncBody.stmts q195.1.2.1, scope := q195.1.2.2, globals := 0, closure := [], defaults := Value.none, kwdefaults := Value.none } }
noncomputable def x_246 : Obj := { cls := Value.none, data := Data.fields #[] }
noncomputable def x_249 : Obj := { cls := Value.none, data := Data.func { name := Str.ofString "is_onlyws", qualname := Str.ofString "_Accumulator.is_onlyws", params := q202.1.1, body := FuncBody.stmts q202.1.2.1, scope := q202.1.2.2, globals := 0, closure := [], defaults := Value.none, kwdefaults := Value.none } }
noncomputable def x_254 : Obj := { cls := Value.none, data := Data.fields #[] }
noncomputable def x_257 : Obj := { cls := Value.none, data := Data.func { name := Str.ofString "part_count", qualname := Str.ofString "_Accumulator.part_count", params := q210.1.1, body := FuncBody.stmts q210.1.2.1, scope := q210.1.2.2, globals := 0, closure := [], defaults := Value.none, kwdefaults := Value.none } }
noncomputable def x_265 : Obj := { cls := Value.type "super", data := Data.fields #[Value.ref 213, Value.ref 213, Value.ref 213] }
noncomputable def x_266 : Obj := { cls := Value.type "builtin_function_or_method", data := Data.fields #[Value.builtin "object.__init_subclass__", Value.ref 213] }
noncomputable def x_268 : Obj := { cls := Value.none, data := Data.fields #[Value.int 2 0, Value.int 0 0, Value.ref 37, Value.int 6 0, Value.int 0 0, Value.ref 46, Value.int 12 0, Value.int 0 0, Value.ref 55, Value.int 35 0, Value.int 0 0, Value.ref 62, Value.int 101 0, Value.int 0 0, Value.ref 140, Value.int 139 0, Value.int 0 0, Value.ref 229, Value.int 143 0, Value.int 0 0, Value.ref 236, Value.int 150 0, Value.int 0 0, Value.ref 243, Value.int 177 0, Value.int 0 0, Value.ref 250, Value.int 191 0, Value.int 0 0, Value.ref 257, Value.int 209 0, Value.int 0 0, Value.ref 264, Value.int 223 0, Value.int 0 0, Value.ref 269, Value.int 236 0, Value.int 0 0, Value.ref 274] }
noncomputable def x_269 : Obj := { cls := Value.type "list", data := Data.seq #[Value.int 14 533, Value.int 8 534, Value.int 1 535, Value.int 2 536, Value.int 4294967295 537, Value.int 1 538, Value.int 1 539, Value.int 34 540, Value.int 0 541, Value.int 16 542, Value.int 34 543, Value.int 28 544, Value.int 22 545, Value.int 0 546, Value.int 4294967295 547, Value.int 7 548, Value.int 11 549, Value.int 13 550, Value.int 7 551, Value.int 21 552, Value.int 16 553, Value.int 34 554, Value.int 16 555, Value.int 92 556, Value.int 0 557, Value.int 15 558, Value.int 8 559, Value.int 6 560, Value.int 16 561, Value.int 92 562, Value.int 2 563, Value.int 15 564, Value.int 2 565, Value.int 0 566, Value.int 1 567, Value.int 16 568, Value.int 34 569, Value.int 1 570] }
noncomputable def x_270 : Obj := { cls := Value.type "dict", data := Data.dict #[] }
noncomputable def x_271 : Obj := { cls := Value.type "tuple", data := Data.seq #[Value.none] }
noncomputable def x_276 : Obj := { cls := Value.none, data := Data.fields #[] }
noncomputable def x_279 : Obj := { cls := Value.none, data := Data.func { name := Str.ofString "_paren_depth", qualname := Str.ofString "_paren_depth", params := q230.1.1, body := FuncBody.stmts q230.1.2.1, scope := q230.1.2.2, globals := 0, closure := [], defaults := Value.none, kwdefaults := Value.none } }
noncomputable def x_283 : Obj := { cls := Value.none, data := Data.fields #[] }
noncomputable def x_286 : Obj := { cls := Value.none, data := Data.func { name := Str.ofString "_byteswap", qualname := Str.ofString "_byteswap", params := q237.1.1, body := FuncBody.stmts q237.1.2.1, scope := q237.1.2.2, globals := 0, closure := [], defaults := Value.none, kwdefaults := Value.none } }
noncomputable def x_290 : Obj := { cls := Value.none, data := Data.fields #[] }
noncomputable def x_293 : Obj := { cls := Value.none, data := Data.func { name := Str.ofString "_law_forest", qualname := Str.ofString "_law_forest", params := q244.1.1, body := FuncBody.stmts q244.1.2.1, scope := q244.1.2.2, globals := 0, closure := [], defaults := Value.none, kwdefaults := Value.none } }
noncomputable def x_297 : Obj := { cls := Value.none, data := Data.fields #[] }
noncomputable def x_300 : Obj := { cls := Value.none, data := Data.func { name := Str.ofString "_law_read", qualname := Str.ofString "_law_read", params := q251.1.1, body := FuncBody.stmts q251.1.2.1, scope := q251.1.2.2, globals := 0, closure := [], defaults := Value.none, kwdefaults := Value.none } }
noncomputable def x_304 : Obj := { cls := Value.none, data := Data.fields #[] }
noncomputable def x_307 : Obj := { cls := Value.none, data := Data.func { name := Str.ofString "_law_table", qualname := Str.ofString "_law_table", params := q258.1.1, body := FuncBody.stmts q258.1.2.1, scope := q258.1.2.2, globals := 0, closure := [], defaults := Value.none, kwdefaults := Value.none } }
noncomputable def x_311 : Obj := { cls := Value.none, data := Data.fields #[] }
noncomputable def x_314 : Obj := { cls := Value.none, data := Data.func { name := Str.ofString "_law_ways", qualname := Str.ofString "_law_ways", params := q265.1.1, body := FuncBody.stmts q265.1.2.1, scope := q265.1.2.2, globals := 0, closure := [], defaults := Value.none, kwdefaults := Value.none } }
noncomputable def x_318 : Obj := { cls := Value.none, data := Data.fields #[] }
noncomputable def x_319 : Obj := { cls := Value.none, data := Data.func { name := Str.ofString "_law_told", qualname := Str.ofString "_law_told", params := q270.1.1, body := FuncBody.stmts q270.1.2.1, scope := q270.1.2.2, globals := 0, closure := [], defaults := Value.none, kwdefaults := Value.none } }
noncomputable def x_323 : Obj := { cls := Value.none, data := Data.fields #[] }
noncomputable def x_324 : Obj := { cls := Value.none, data := Data.func { name := Str.ofString "law", qualname := Str.ofString "law", params := q275.1.1, body := FuncBody.stmts q275.1.2.1, scope := q275.1.2.2, globals := 0, closure := [], defaults := Value.none, kwdefaults := Value.none } }
noncomputable def heap_68 : Params → Heap := fun P => ⟨⟨[boot_o_0 P, x_42 P, a P 2, x_44 P, boot_o_4 P, boot_o_5 P, boot_o_6 P, boot_o_7 P, boot_o_8 P, boot_o_9 P, boot_o_10 P, x_52 P, x_53, x_54 P, x_55, x_56, x_57, x_58, x_59, x_60, x_61 P, x_62 P, x_63, x_64, x_65, x_66, x_67, x_68]⟩, {}⟩
noncomputable def heap_72 : Params → Heap := fun P => ⟨⟨[boot_o_0 P, x_42 P, a P 2, x_44 P, boot_o_4 P, boot_o_5 P, boot_o_6 P, boot_o_7 P, boot_o_8 P, boot_o_9 P, boot_o_10 P, x_52 P, x_53, x_54 P, x_55, x_56, x_57, x_58, x_59, x_60, x_61 P, x_62 P, x_63, x_64, x_65, x_66, x_67, x_68, x_69, x_70, x_71, x_72]⟩, {}⟩
noncomputable def heap_327 : Params → Heap := fun P => ⟨⟨[boot_o_0 P, x_42 P, a P 2, a P 3, boot_o_4 P, boot_o_5 P, boot_o_6 P, boot_o_7 P, boot_o_8 P, boot_o_9 P, boot_o_10 P, x_52 P, x_53, x_54 P, x_55, x_56, x_57, x_58, x_59, x_60, x_61 P, x_62 P, x_63, x_64, x_65, x_66, x_67, x_68, x_69, x_268, x_71, x_72, a P 32, x_78, a P 34, a P 35, x_81, a P 37, a P 38, a P 39, a P 40, a P 41, x_87, a P 43, a P 44, x_90, a P 46, a P 47, a P 48, a P 49, a P 50, x_96, a P 52, a P 53, x_99, a P 55, a P 56, x_104, x_105, x_106 P, x_107, x_108, x_109, x_110, a P 64, x_112, a P 66, a P 67, x_115, a P 69, a P 70, a P 71, x_119, a P 73, a P 74, x_122, a P 76, a P 77, a P 78, x_126, a P 80, a P 81, x_129, a P 83, a P 84, a P 85, x_133, a P 87, a P 88, x_136, a P 90, a P 91, a P 92, x_140, a P 94, a P 95, x_143, a P 97, a P 98, a P 99, x_147, a P 101, a P 102, x_150, a P 104, a P 105, a P 106, x_154, a P 108, a P 109, x_157, a P 111, a P 112, a P 113, x_161, a P 115, a P 116, x_164, a P 118, a P 119, a P 120, x_168, a P 122, a P 123, x_171, a P 125, a P 126, a P 127, a P 128, a P 129, a P 130, a P 131, x_179, x_180, a P 134, x_184, x_185 P, a P 137, x_187, x_188, x_189, x_190, a P 142, a P 143, a P 144, x_194, a P 146, a P 147, x_197, a P 149, a P 150, a P 151, x_201, a P 153, a P 154, x_204, a P 156, a P 157, a P 158, a P 159, x_209, a P 161, a P 162, x_212, a P 164, a P 165, a P 166, a P 167, x_217, a P 169, a P 170, x_220, a P 172, a P 173, a P 174, x_224, a P 176, a P 177, x_227, a P 179, a P 180, a P 181, x_231, a P 183, a P 184, x_234, a P 186, a P 187, a P 188, a P 189, x_239, a P 191, a P 192, x_242, a P 194, a P 195, a P 196, x_246, a P 198, a P 199, x_249, a P 201, a P 202, a P 203, a P 204, x_254, a P 206, a P 207, x_257, a P 209, a P 210, a P 211, a P 212, a P 213, a P 214, a P 215, x_265, x_266, x_269, x_270, x_271, a P 221, a P 222, a P 223, a P 224, x_276, a P 226, a P 227, x_279, a P 229, a P 230, a P 231, x_283, a P 233, a P 234, x_286, a P 236, a P 237, a P 238, x_290, a P 240, a P 241, x_293, a P 243, a P 244, a P 245, x_297, a P 247, a P 248, x_300, a P 250, a P 251, a P 252, x_304, a P 254, a P 255, x_307, a P 257, a P 258, a P 259, x_311, a P 261, a P 262, x_314, a P 264, a P 265, a P 266, x_318, x_319, a P 269, a P 270, a P 271, x_323, x_324, a P 274, a P 275]⟩, {}⟩
noncomputable def tree_73 : Params → BT := fun P => (.node (boot_o_0 P) (.node (x_42 P) (.node (x_44 P) (.node (boot_o_7 P) (.node x_56 (.node x_72 .nil .nil) .nil) (.node x_64 .nil .nil)) (.node (x_52 P) (.node x_60 .nil .nil) (.node x_68 .nil .nil))) (.node (boot_o_5 P) (.node (boot_o_9 P) (.node x_58 .nil .nil) (.node x_66 .nil .nil)) (.node (x_54 P) (.node (x_62 P) .nil .nil) (.node x_70 .nil .nil)))) (.node (a P 2) (.node (boot_o_4 P) (.node (boot_o_8 P) (.node x_57 .nil .nil) (.node x_65 .nil .nil)) (.node x_53 (.node (x_61 P) .nil .nil) (.node x_69 .nil .nil))) (.node (boot_o_6 P) (.node (boot_o_10 P) (.node x_59 .nil .nil) (.node x_67 .nil .nil)) (.node x_55 (.node x_63 .nil .nil) (.node x_71 .nil .nil)))))
noncomputable def tree_101 : Params → BT := fun P => (.node (boot_o_0 P) (.node (x_42 P) (.node (x_75 P) (.node (boot_o_7 P) (.node x_56 (.node x_72 .nil .nil) (.node (a P 47) .nil .nil)) (.node x_64 (.node (a P 39) .nil .nil) (.node (a P 55) .nil .nil))) (.node (x_52 P) (.node x_60 (.node (a P 35) .nil .nil) (.node x_96 .nil .nil)) (.node x_68 (.node (a P 43) .nil .nil) .nil))) (.node (boot_o_5 P) (.node (boot_o_9 P) (.node x_58 (.node x_78 .nil .nil) (.node (a P 49) .nil .nil)) (.node x_66 (.node (a P 41) .nil .nil) .nil)) (.node (x_54 P) (.node (x_62 P) (.node (a P 37) .nil .nil) (.node (a P 53) .nil .nil)) (.node x_76 (.node x_90 .nil .nil) .nil)))) (.node (a P 2) (.node (boot_o_4 P) (.node (boot_o_8 P) (.node x_57 (.node (a P 32) .nil .nil) (.node (a P 48) .nil .nil)) (.node x_65 (.node (a P 40) .nil .nil) (.node (a P 56) .nil .nil))) (.node x_53 (.node (x_61 P) (.node x_81 .nil .nil) (.node (a P 52) .nil .nil)) (.node x_69 (.node (a P 44) .nil .nil) .nil))) (.node (boot_o_6 P) (.node (boot_o_10 P) (.node x_59 (.node (a P 34) .nil .nil) (.node (a P 50) .nil .nil)) (.node x_67 (.node x_87 .nil .nil) .nil)) (.node x_55 (.node x_63 (.node (a P 38) .nil .nil) (.node x_99 .nil .nil)) (.node x_71 (.node (a P 46) .nil .nil) .nil)))))
noncomputable def tree_180 : Params → BT := fun P => (.node (boot_o_0 P) (.node (x_42 P) (.node (x_102 P) (.node (boot_o_7 P) (.node x_56 (.node x_72 (.node x_110 (.node (a P 127) .nil .nil) .nil) (.node (a P 95) .nil .nil)) (.node (a P 47) (.node x_126 .nil .nil) (.node (a P 111) .nil .nil))) (.node x_64 (.node (a P 39) (.node (a P 71) .nil .nil) (.node x_150 .nil .nil)) (.node (a P 55) (.node (a P 87) .nil .nil) (.node (a P 119) .nil .nil)))) (.node (x_52 P) (.node x_60 (.node (a P 35) (.node (a P 67) (.node (a P 131) .nil .nil) .nil) (.node (a P 99) .nil .nil)) (.node x_96 (.node (a P 83) .nil .nil) (.node (a P 115) .nil .nil))) (.node x_68 (.node (a P 43) (.node x_122 .nil .nil) (.node x_154 .nil .nil)) (.node (x_106 P) (.node (a P 91) .nil .nil) (.node (a P 123) .nil .nil))))) (.node (boot_o_5 P) (.node (boot_o_9 P) (.node x_58 (.node x_78 (.node x_112 (.node (a P 129) .nil .nil) .nil) (.node (a P 97) .nil .nil)) (.node (a P 49) (.node (a P 81) .nil .nil) (.node (a P 113) .nil .nil))) (.node x_66 (.node (a P 41) (.node (a P 73) .nil .nil) (.node (a P 105) .nil .nil)) (.node x_104 (.node x_136 .nil .nil) (.node x_168 .nil .nil)))) (.node (x_54 P) (.node (x_62 P) (.node (a P 37) (.node (a P 69) (.node x_180 .nil .nil) .nil) (.node (a P 101) .nil .nil)) (.node (a P 53) (.node (a P 85) .nil .nil) (.node x_164 .nil .nil))) (.node x_103 (.node x_90 (.node (a P 77) .nil .nil) (.node (a P 109) .nil .nil)) (.node x_108 (.node x_140 .nil .nil) (.node (a P 125) .nil .nil)))))) (.node (a P 2) (.node (boot_o_4 P) (.node (boot_o_8 P) (.node x_57 (.node (a P 32) (.node (a P 64) (.node (a P 128) .nil .nil) .nil) (.node x_143 .nil .nil)) (.node (a P 48) (.node (a P 80) .nil .nil) (.node (a P 112) .nil .nil))) (.node x_65 (.node (a P 40) (.node x_119 .nil .nil) (.node (a P 104) .nil .nil)) (.node (a P 56) (.node (a P 88) .nil .nil) (.node (a P 120) .nil .nil)))) (.node x_53 (.node (x_61 P) (.node x_81 (.node x_115 (.node x_179 .nil .nil) .nil) (.node x_147 .nil .nil)) (.node (a P 52) (.node (a P 84) .nil .nil) (.node (a P 116) .nil .nil))) (.node x_69 (.node (a P 44) (.node (a P 76) .nil .nil) (.node (a P 108) .nil .nil)) (.node x_107 (.node (a P 92) .nil .nil) (.node x_171 .nil .nil))))) (.node (boot_o_6 P) (.node (boot_o_10 P) (.node x_59 (.node (a P 34) (.node (a P 66) (.node (a P 130) .nil .nil) .nil) (.node (a P 98) .nil .nil)) (.node (a P 50) (.node x_129 .nil .nil) (.node x_161 .nil .nil))) (.node x_67 (.node x_87 (.node (a P 74) .nil .nil) (.node (a P 106) .nil .nil)) (.node x_105 (.node (a P 90) .nil .nil) (.node (a P 122) .nil .nil)))) (.node x_55 (.node x_63 (.node (a P 38) (.node (a P 70) .nil .nil) (.node (a P 102) .nil .nil)) (.node x_99 (.node x_133 .nil .nil) (.node (a P 118) .nil .nil))) (.node x_71 (.node (a P 46) (.node (a P 78) .nil .nil) (.node x_157 .nil .nil)) (.node x_109 (.node (a P 94) .nil .nil) (.node (a P 126) .nil .nil)))))))
noncomputable def tree_266 : Params → BT := fun P => (.node (boot_o_0 P) (.node (x_42 P) (.node (x_181 P) (.node (boot_o_7 P) (.node x_56 (.node x_72 (.node x_110 (.node (a P 127) .nil .nil) (.node (a P 191) .nil .nil)) (.node (a P 95) (.node (a P 159) .nil .nil) .nil)) (.node (a P 47) (.node x_126 (.node (a P 143) .nil .nil) (.node (a P 207) .nil .nil)) (.node (a P 111) (.node x_224 .nil .nil) .nil))) (.node x_64 (.node (a P 39) (.node (a P 71) (.node x_184 .nil .nil) (.node (a P 199) .nil .nil)) (.node x_150 (.node (a P 167) .nil .nil) .nil)) (.node (a P 55) (.node (a P 87) (.node (a P 151) .nil .nil) (.node (a P 215) .nil .nil)) (.node (a P 119) (.node (a P 183) .nil .nil) .nil)))) (.node (x_52 P) (.node x_60 (.node (a P 35) (.node (a P 67) (.node (a P 131) .nil .nil) (.node (a P 195) .nil .nil)) (.node (a P 99) (.node x_212 .nil .nil) .nil)) (.node x_96 (.node (a P 83) (.node (a P 147) .nil .nil) (.node (a P 211) .nil .nil)) (.node (a P 115) (.node (a P 179) .nil .nil) .nil))) (.node x_68 (.node (a P 43) (.node x_122 (.node x_188 .nil .nil) (.node (a P 203) .nil .nil)) (.node x_154 (.node x_220 .nil .nil) .nil)) (.node (x_106 P) (.node (a P 91) (.node x_204 .nil .nil) .nil) (.node (a P 123) (.node (a P 187) .nil .nil) .nil))))) (.node (boot_o_5 P) (.node (boot_o_9 P) (.node x_58 (.node x_78 (.node x_112 (.node (a P 129) .nil .nil) (.node x_242 .nil .nil)) (.node (a P 97) (.node (a P 161) .nil .nil) .nil)) (.node (a P 49) (.node (a P 81) (.node x_194 .nil .nil) (.node (a P 209) .nil .nil)) (.node (a P 113) (.node (a P 177) .nil .nil) .nil))) (.node x_66 (.node (a P 41) (.node (a P 73) (.node (a P 137) .nil .nil) (.node (a P 201) .nil .nil)) (.node (a P 105) (.node (a P 169) .nil .nil) .nil)) (.node x_104 (.node x_136 (.node (a P 153) .nil .nil) (.node x_266 .nil .nil)) (.node x_168 (.node x_234 .nil .nil) .nil)))) (.node (x_54 P) (.node (x_62 P) (.node (a P 37) (.node (a P 69) (.node x_180 .nil .nil) (.node x_246 .nil .nil)) (.node (a P 101) (.node (a P 165) .nil .nil) .nil)) (.node (a P 53) (.node (a P 85) (.node (a P 149) .nil .nil) (.node (a P 213) .nil .nil)) (.node x_164 (.node (a P 181) .nil .nil) .nil))) (.node x_182 (.node x_90 (.node (a P 77) (.node x_190 .nil .nil) (.node x_254 .nil .nil)) (.node (a P 109) (.node (a P 173) .nil .nil) .nil)) (.node x_108 (.node x_140 (.node (a P 157) .nil .nil) .nil) (.node (a P 125) (.node (a P 189) .nil .nil) .nil)))))) (.node (a P 2) (.node (boot_o_4 P) (.node (boot_o_8 P) (.node x_57 (.node (a P 32) (.node (a P 64) (.node (a P 128) .nil .nil) (.node (a P 192) .nil .nil)) (.node x_143 (.node x_209 .nil .nil) .nil)) (.node (a P 48) (.node (a P 80) (.node (a P 144) .nil .nil) (.node x_257 .nil .nil)) (.node (a P 112) (.node (a P 176) .nil .nil) .nil))) (.node x_65 (.node (a P 40) (.node x_119 (.node (x_185 P) .nil .nil) (.node x_249 .nil .nil)) (.node (a P 104) (.node x_217 .nil .nil) .nil)) (.node (a P 56) (.node (a P 88) (.node x_201 .nil .nil) (.node x_265 .nil .nil)) (.node (a P 120) (.node (a P 184) .nil .nil) .nil)))) (.node x_53 (.node (x_61 P) (.node x_81 (.node x_115 (.node x_179 .nil .nil) (.node (a P 196) .nil .nil)) (.node x_147 (.node (a P 164) .nil .nil) .nil)) (.node (a P 52) (.node (a P 84) (.node x_197 .nil .nil) (.node (a P 212) .nil .nil)) (.node (a P 116) (.node (a P 180) .nil .nil) .nil))) (.node x_69 (.node (a P 44) (.node (a P 76) (.node x_189 .nil .nil) (.node (a P 204) .nil .nil)) (.node (a P 108) (.node (a P 172) .nil .nil) .nil)) (.node x_107 (.node (a P 92) (.node (a P 156) .nil .nil) .nil) (.node x_171 (.node (a P 188) .nil .nil) .nil))))) (.node (boot_o_6 P) (.node (boot_o_10 P) (.node x_59 (.node (a P 34) (.node (a P 66) (.node (a P 130) .nil .nil) (.node (a P 194) .nil .nil)) (.node (a P 98) (.node (a P 162) .nil .nil) .nil)) (.node (a P 50) (.node x_129 (.node (a P 146) .nil .nil) (.node (a P 210) .nil .nil)) (.node x_161 (.node x_227 .nil .nil) .nil))) (.node x_67 (.node x_87 (.node (a P 74) (.node x_187 .nil .nil) (.node (a P 202) .nil .nil)) (.node (a P 106) (.node (a P 170) .nil .nil) .nil)) (.node x_105 (.node (a P 90) (.node (a P 154) .nil .nil) .nil) (.node (a P 122) (.node (a P 186) .nil .nil) .nil)))) (.node x_55 (.node x_63 (.node (a P 38) (.node (a P 70) (.node (a P 134) .nil .nil) (.node (a P 198) .nil .nil)) (.node (a P 102) (.node (a P 166) .nil .nil) .nil)) (.node x_99 (.node x_133 (.node (a P 150) .nil .nil) (.node (a P 214) .nil .nil)) (.node (a P 118) (.node x_231 .nil .nil) .nil))) (.node x_71 (.node (a P 46) (.node (a P 78) (.node (a P 142) .nil .nil) (.node (a P 206) .nil .nil)) (.node x_157 (.node (a P 174) .nil .nil) .nil)) (.node x_109 (.node (a P 94) (.node (a P 158) .nil .nil) .nil) (.node (a P 126) (.node x_239 .nil .nil) .nil)))))))
noncomputable def tree_326 : Params → BT := fun P => (.node (boot_o_0 P) (.node (x_42 P) (.node (a P 3) (.node (boot_o_7 P) (.node x_56 (.node x_72 (.node x_110 (.node (a P 127) (.node (a P 255) .nil .nil) .nil) (.node (a P 191) .nil .nil)) (.node (a P 95) (.node (a P 159) .nil .nil) (.node (a P 223) .nil .nil))) (.node (a P 47) (.node x_126 (.node (a P 143) (.node (a P 271) .nil .nil) .nil) (.node (a P 207) .nil .nil)) (.node (a P 111) (.node x_224 .nil .nil) (.node x_290 .nil .nil)))) (.node x_64 (.node (a P 39) (.node (a P 71) (.node x_184 (.node x_314 .nil .nil) .nil) (.node (a P 199) .nil .nil)) (.node x_150 (.node (a P 167) .nil .nil) (.node (a P 231) .nil .nil))) (.node (a P 55) (.node (a P 87) (.node (a P 151) .nil .nil) (.node (a P 215) .nil .nil)) (.node (a P 119) (.node (a P 183) .nil .nil) (.node (a P 247) .nil .nil))))) (.node (x_52 P) (.node x_60 (.node (a P 35) (.node (a P 67) (.node (a P 131) (.node (a P 259) .nil .nil) .nil) (.node (a P 195) .nil .nil)) (.node (a P 99) (.node x_212 .nil .nil) (.node (a P 227) .nil .nil))) (.node x_96 (.node (a P 83) (.node (a P 147) (.node (a P 275) .nil .nil) .nil) (.node (a P 211) .nil .nil)) (.node (a P 115) (.node (a P 179) .nil .nil) (.node (a P 243) .nil .nil)))) (.node x_68 (.node (a P 43) (.node x_122 (.node x_188 (.node x_318 .nil .nil) .nil) (.node (a P 203) .nil .nil)) (.node x_154 (.node x_220 .nil .nil) (.node x_286 .nil .nil))) (.node (x_106 P) (.node (a P 91) (.node x_204 .nil .nil) (.node x_270 .nil .nil)) (.node (a P 123) (.node (a P 187) .nil .nil) (.node (a P 251) .nil .nil)))))) (.node (boot_o_5 P) (.node (boot_o_9 P) (.node x_58 (.node x_78 (.node x_112 (.node (a P 129) (.node (a P 257) .nil .nil) .nil) (.node x_242 .nil .nil)) (.node (a P 97) (.node (a P 161) .nil .nil) (.node x_276 .nil .nil))) (.node (a P 49) (.node (a P 81) (.node x_194 (.node x_324 .nil .nil) .nil) (.node (a P 209) .nil .nil)) (.node (a P 113) (.node (a P 177) .nil .nil) (.node (a P 241) .nil .nil)))) (.node x_66 (.node (a P 41) (.node (a P 73) (.node (a P 137) (.node (a P 265) .nil .nil) .nil) (.node (a P 201) .nil .nil)) (.node (a P 105) (.node (a P 169) .nil .nil) (.node (a P 233) .nil .nil))) (.node x_104 (.node x_136 (.node (a P 153) .nil .nil) (.node x_266 .nil .nil)) (.node x_168 (.node x_234 .nil .nil) (.node x_300 .nil .nil))))) (.node (x_54 P) (.node (x_62 P) (.node (a P 37) (.node (a P 69) (.node x_180 (.node (a P 261) .nil .nil) .nil) (.node x_246 .nil .nil)) (.node (a P 101) (.node (a P 165) .nil .nil) (.node (a P 229) .nil .nil))) (.node (a P 53) (.node (a P 85) (.node (a P 149) .nil .nil) (.node (a P 213) .nil .nil)) (.node x_164 (.node (a P 181) .nil .nil) (.node (a P 245) .nil .nil)))) (.node x_268 (.node x_90 (.node (a P 77) (.node x_190 (.node (a P 269) .nil .nil) .nil) (.node x_254 .nil .nil)) (.node (a P 109) (.node (a P 173) .nil .nil) (.node (a P 237) .nil .nil))) (.node x_108 (.node x_140 (.node (a P 157) .nil .nil) (.node (a P 221) .nil .nil)) (.node (a P 125) (.node (a P 189) .nil .nil) (.node x_304 .nil .nil))))))) (.node (a P 2) (.node (boot_o_4 P) (.node (boot_o_8 P) (.node x_57 (.node (a P 32) (.node (a P 64) (.node (a P 128) (.node x_307 .nil .nil) .nil) (.node (a P 192) .nil .nil)) (.node x_143 (.node x_209 .nil .nil) (.node (a P 224) .nil .nil))) (.node (a P 48) (.node (a P 80) (.node (a P 144) (.node x_323 .nil .nil) .nil) (.node x_257 .nil .nil)) (.node (a P 112) (.node (a P 176) .nil .nil) (.node (a P 240) .nil .nil)))) (.node x_65 (.node (a P 40) (.node x_119 (.node (x_185 P) (.node (a P 264) .nil .nil) .nil) (.node x_249 .nil .nil)) (.node (a P 104) (.node x_217 .nil .nil) (.node x_283 .nil .nil))) (.node (a P 56) (.node (a P 88) (.node x_201 .nil .nil) (.node x_265 .nil .nil)) (.node (a P 120) (.node (a P 184) .nil .nil) (.node (a P 248) .nil .nil))))) (.node x_53 (.node (x_61 P) (.node x_81 (.node x_115 (.node x_179 (.node x_311 .nil .nil) .nil) (.node (a P 196) .nil .nil)) (.node x_147 (.node (a P 164) .nil .nil) (.node x_279 .nil .nil))) (.node (a P 52) (.node (a P 84) (.node x_197 .nil .nil) (.node (a P 212) .nil .nil)) (.node (a P 116) (.node (a P 180) .nil .nil) (.node (a P 244) .nil .nil)))) (.node x_69 (.node (a P 44) (.node (a P 76) (.node x_189 (.node x_319 .nil .nil) .nil) (.node (a P 204) .nil .nil)) (.node (a P 108) (.node (a P 172) .nil .nil) (.node (a P 236) .nil .nil))) (.node x_107 (.node (a P 92) (.node (a P 156) .nil .nil) (.node x_271 .nil .nil)) (.node x_171 (.node (a P 188) .nil .nil) (.node (a P 252) .nil .nil)))))) (.node (boot_o_6 P) (.node (boot_o_10 P) (.node x_59 (.node (a P 34) (.node (a P 66) (.node (a P 130) (.node (a P 258) .nil .nil) .nil) (.node (a P 194) .nil .nil)) (.node (a P 98) (.node (a P 162) .nil .nil) (.node (a P 226) .nil .nil))) (.node (a P 50) (.node x_129 (.node (a P 146) (.node (a P 274) .nil .nil) .nil) (.node (a P 210) .nil .nil)) (.node x_161 (.node x_227 .nil .nil) (.node x_293 .nil .nil)))) (.node x_67 (.node x_87 (.node (a P 74) (.node x_187 (.node (a P 266) .nil .nil) .nil) (.node (a P 202) .nil .nil)) (.node (a P 106) (.node (a P 170) .nil .nil) (.node (a P 234) .nil .nil))) (.node x_105 (.node (a P 90) (.node (a P 154) .nil .nil) (.node x_269 .nil .nil)) (.node (a P 122) (.node (a P 186) .nil .nil) (.node (a P 250) .nil .nil))))) (.node x_55 (.node x_63 (.node (a P 38) (.node (a P 70) (.node (a P 134) (.node (a P 262) .nil .nil) .nil) (.node (a P 198) .nil .nil)) (.node (a P 102) (.node (a P 166) .nil .nil) (.node (a P 230) .nil .nil))) (.node x_99 (.node x_133 (.node (a P 150) .nil .nil) (.node (a P 214) .nil .nil)) (.node (a P 118) (.node x_231 .nil .nil) (.node x_297 .nil .nil)))) (.node x_71 (.node (a P 46) (.node (a P 78) (.node (a P 142) (.node (a P 270) .nil .nil) .nil) (.node (a P 206) .nil .nil)) (.node x_157 (.node (a P 174) .nil .nil) (.node (a P 238) .nil .nil))) (.node x_109 (.node (a P 94) (.node (a P 158) .nil .nil) (.node (a P 222) .nil .nil)) (.node (a P 126) (.node x_239 .nil .nil) (.node (a P 254) .nil .nil))))))))

noncomputable abbrev pR : Program := PySem.Challenge.rw_xp0032_01.row.prog
noncomputable def env : Env := { scope := pR.main.scope, locals := mainNs, globals := mainNs, cells := [], code := .ref 30, frame := some 31 }
noncomputable def cd : Code := .body (behindTheImports pR) env
noncomputable def B : List Frame := [topFrame ⟨0, 0, 0, 0⟩]
noncomputable def g1 : List Stmt := (behindTheImports pR).take 7
noncomputable def g2 : List Stmt := ((behindTheImports pR).drop 7).take 1
noncomputable def g3 : List Stmt := ((behindTheImports pR).drop 8).take 1
noncomputable def g4 : List Stmt := (behindTheImports pR).drop 9
theorem split : behindTheImports pR = g1 ++ (g2 ++ (g3 ++ (g4 ++ []))) := by kernel_rfl
theorem r0 (w : World) (os : OsState) : topGo treeTable pR w 28 (some (.ref 6)) 12 ⟨heap_68 w.params, #[], {}, 276, os⟩ (topStub pR) = some (⟨heap_72 w.params, #[], {}, 282, os⟩, ⟨denote treeTable cd, cd, ⟨0, 0, 0, 0⟩, B⟩) := by kernel_rfl
theorem r1 (w : World) (os : OsState) : segRun treeTable pR w 28 (some (.ref 6)) 1 1 ⟨heap_72 w.params, #[], {}, 282, os⟩ (blockOf (behindTheImports pR) env cd ⟨0, 0, 0, 0⟩ B) = some (.next, (⟨tree_73 w.params, 32, {}, #[], {}, 282, os⟩ : SharedT).abs, cd, ⟨0, 0, 0, 0⟩) := by rw [Fast.te14374325043358763698, Fast.te14364793385576792824]; kernel_rfl
theorem r2 (w : World) (os : OsState) : segRunT treeTable pR w 28 (some (.ref 6)) 1 147 ⟨tree_73 w.params, 32, {}, #[], {}, 282, os⟩ (piecesOf g1 env cd ⟨0, 0, 0, 0⟩ B) = some (.next, ⟨tree_101 w.params, 57, {}, #[], {}, 324, os⟩, cd, ⟨34, 0, 34, 11⟩) := by rw [Fast.te10110043849684766642, Fast.te14364793385576792824]; kernel_rfl
theorem r3 (w : World) (os : OsState) : segRunT treeTable pR w 28 (some (.ref 6)) 1 494 ⟨tree_101 w.params, 57, {}, #[], {}, 324, os⟩ (piecesOf g2 env cd ⟨34, 0, 34, 11⟩ B) = some (.next, ⟨tree_180 w.params, 134, {}, #[], {}, 432, os⟩, cd, ⟨35, 0, 100, 47⟩) := by rw [Fast.te10110043849684766642, Fast.te14364793385576792824]; kernel_rfl
theorem r4 (w : World) (os : OsState) : segRunT treeTable pR w 28 (some (.ref 6)) 1 505 ⟨tree_180 w.params, 134, {}, #[], {}, 432, os⟩ (piecesOf g3 env cd ⟨35, 0, 100, 47⟩ B) = some (.next, ⟨tree_266 w.params, 218, {}, #[], {}, 528, os⟩, cd, ⟨101, 0, 136, 32⟩) := by rw [Fast.te10110043849684766642, Fast.te14364793385576792824]; kernel_rfl
theorem r5 (w : World) (os : OsState) : segRunT treeTable pR w 28 (some (.ref 6)) 1 379 ⟨tree_266 w.params, 218, {}, #[], {}, 528, os⟩ (piecesOf g4 env cd ⟨101, 0, 136, 32⟩ B) = some (.next, ⟨tree_326 w.params, 276, {}, #[], {}, 669, os⟩, cd, ⟨236, 0, 246, 66⟩) := by rw [Fast.te10110043849684766642, Fast.te14364793385576792824]; kernel_rfl
theorem r6 (w : World) (os : OsState) : topRun treeTable pR w 28 (some (.ref 6)) 2 (⟨tree_326 w.params, 276, {}, #[], {}, 669, os⟩ : SharedT).abs (restOf [] env cd ⟨236, 0, 246, 66⟩ B) = some ⟨heap_327 w.params, #[], {}, 669, os⟩ := by kernel_rfl
theorem run (w : World) (os : OsState) : topRun treeTable pR w 28 (some (.ref 6)) (12 + (1 + (147 + (494 + (505 + (379 + 2)))))) ⟨heap_68 w.params, #[], {}, 276, os⟩ (topStub pR) = some ⟨heap_327 w.params, #[], {}, 669, os⟩ := by
  refine go_top (r0 w os) (piece_block (r1 w os) ?_)
  rw [split]
  exact piece_app (segRun_of (r2 w os)) (piece_app (segRun_of (r3 w os)) (piece_app (segRun_of (r4 w os)) (piece_app (segRun_of (r5 w os)) (r6 w os))))
theorem opened (w : World) : (fencedOpening treeTable pR w 3168).map (fun s => (s.heap, s.gens, s.drawn, s.toks)) = some (heap_68 w.params, #[], {}, 276) := by unfold fencedOpening; rw [Fast.te10274390034422433532, Fast.te1435165496053646825, Fast.te14289696077712309145, Fast.te14364793385576792824]; kernel_rfl
theorem size (w : World) : ((heap_68 w.params).isNs mainGlobals && (#[] : Array GenState).size == 0, (heap_68 w.params).objs.size, (heap_68 w.params).nsMap mainGlobals "__annotations__") = (true, 28, some (.ref 6)) := by kernel_rfl
theorem look1 (w : World) (os : OsState) : (staticsOk (importedModules pR.main.body) (heap_68 w.params) (heap_327 w.params) && namesBound pR (heap_327 w.params) && gensDone ⟨heap_327 w.params, #[], {}, 669, os⟩ && laidKept (heap_68 w.params) (heap_327 w.params)) = true := by kernel_rfl
theorem look2 (w : World) (os : OsState) : openSeen Mine.hd.view_39 [Str.ofString "insort_left", Str.ofString "bisect_left", Str.ofString "_Accumulator", Str.ofString "_quoted", Str.ofString "_paren_depth"] (importedModules pR.main.body) (fun s => xlAt Mine.hd.view_39 [] s && recOk PySem.Challenge.rw_xp0032_01.row.records s) true ⟨heap_327 w.params, #[], {}, 669, os⟩ = openGood Mine.hd.view_39 [Str.ofString "insort_left", Str.ofString "bisect_left", Str.ofString "_Accumulator", Str.ofString "_quoted", Str.ofString "_paren_depth"] := by rw [Fast.te4187177175401517315]; kernel_rfl
theorem look3 (w : World) (os : OsState) : Hook.obs hookC ⟨heap_327 w.params, #[], {}, 669, os⟩ = Hook.val hookC w := by kernel_rfl
end lp
theorem leftC : LeftO PySem.Challenge.rw_xp0032_01.row.prog Mine.hd.view_39 [Str.ofString "insort_left", Str.ofString "bisect_left", Str.ofString "_Accumulator", Str.ofString "_quoted", Str.ofString "_paren_depth"] (fun s => xlAt Mine.hd.view_39 [] s && recOk PySem.Challenge.rw_xp0032_01.row.records s) (Hook.obs hookC) (Hook.val hookC) 3168 := LeftO.of_pieces (H₀ := lp.heap_68) (H₁ := lp.heap_327) lp.opened lp.size lp.run (by decide) fun w => funext fun os => looks_pair (lp.look1 w os) (looks_pair (lp.look2 w os) (lp.look3 w os))
end Mine
end XHead
section XFold
open PySem PySem.W PyProof.Rows PySem.Calls
namespace Mine
noncomputable def afterS (M : Model) (A : Around) (rest : List Stmt) (env : Env) (Q : Flow → Shared → Prop) (E : Value → Shared → Prop) (f : Flow) (s : Shared) : Prop := match f with
  | .next => wpAny M A (execs rest env) Q E s
  | f => Q f s
section
variable {M : Model} {A : Around} {rest : List Stmt} {st : Stmt} {env : Env} {Q : Flow → Shared → Prop} {E : Value → Shared → Prop} {s : Shared}
theorem afterS_next (h : wpAny M A (execs rest env) Q E s) : afterS M A rest env Q E .next s := h
theorem afterS_ret {v : Value} (h : Q (.ret v) s) : afterS M A rest env Q E (.ret v) s := h
theorem afterS_brk (h : Q .brk s) : afterS M A rest env Q E .brk s := h
theorem afterS_cont (h : Q .cont s) : afterS M A rest env Q E .cont s := h
theorem execs_consA (h : wpAny M A (exec st env) (afterS M A rest env Q E) E s) : wpAny M A (execs (st :: rest) env) Q E s :=
  wpAny_execs_cons (wpAny_mono h (fun f s' h => by cases f <;> exact h) fun _ _ h => h)
end
section
variable {α : Type} {M : Model} {A : Around} {E : Value → Shared → Prop} {s : Shared} {Q : α → Shared → Prop}
theorem wpAny_no {c : Prop} [i : Decidable c] {t e : Sem α} (hc : ¬ c) (h : wpAny M A e Q E s) : wpAny M A (if c then t else e) Q E s := by rw [if_neg hc]; exact h
theorem wpAny_yes {c : Prop} [i : Decidable c] {t e : Sem α} (hc : c) (h : wpAny M A t Q E s) : wpAny M A (if c then t else e) Q E s := by rw [if_pos hc]; exact h
theorem wpAny_eq {t u : Sem α} (e : t = u) (h : wpAny M A u Q E s) : wpAny M A t Q E s := by rw [e]; exact h
end
theorem bno {b : Bool} (h : b = false) : ¬ b = true := fun e => by rw [h] at e; cases e
theorem nbno {b : Bool} (h : b = true) : ¬ (!b) = true := fun e => by rw [h] at e; cases e
theorem limz {a n c : Nat} (h : a + n < c) : a < c := Nat.lt_of_le_of_lt (Nat.le_add_right a n) h
theorem lim0 {a k n c : Nat} (h : a + n < c) (hk : Nat.ble k n = true) : a + k < c := Nat.lt_of_le_of_lt (Nat.add_le_add_left (Nat.le_of_ble_eq_true hk) a) h
theorem lim1 {a j k n c : Nat} (h : a + n < c) (hk : Nat.ble (j + k) n = true) : a + j + k < c := Nat.add_assoc a j k ▸ lim0 h hk
theorem lim2 {a i j k n c : Nat} (h : a + n < c) (hk : Nat.ble (i + j + k) n = true) : a + i + j + k < c := by
  have := Nat.le_of_ble_eq_true hk
  omega
theorem lw {a n m : Nat} (h : a < n) (hn : Nat.ble n m = true) : a < m := Nat.lt_of_lt_of_le h (Nat.le_of_ble_eq_true hn)
theorem llw {a n m : Nat} (h : a < n) (hn : Nat.ble n m = true) : a ≤ m := Nat.le_of_lt (lw h hn)
theorem lwe {a b n m : Nat} (e : a = b) (h : b < n) (hn : Nat.ble n m = true) : a < m := e ▸ lw h hn
theorem lwl {a b n m : Nat} (e : a ≤ b) (h : b < n) (hn : Nat.ble n m = true) : a < m := Nat.lt_of_le_of_lt e (lw h hn)
theorem lll {a b n m : Nat} (e : a ≤ b) (h : b ≤ n) (hn : Nat.ble n m = true) : a ≤ m := Nat.le_trans e (Nat.le_trans h (Nat.le_of_ble_eq_true hn))
theorem lllt {a b n m : Nat} (e : a ≤ b) (h : b ≤ n) (hn : Nat.blt n m = true) : a < m := Nat.lt_of_le_of_lt (Nat.le_trans e h) (Nat.le_of_ble_eq_true hn)
theorem llt {a n m : Nat} (h : a ≤ n) (hn : Nat.blt n m = true) : a < m := Nat.lt_of_le_of_lt h (Nat.le_of_ble_eq_true hn)
theorem lel {a n m : Nat} (h : a ≤ n) (hn : Nat.ble n m = true) : a ≤ m := Nat.le_trans h (Nat.le_of_ble_eq_true hn)
theorem cnn {a : Nat} : (0 : Int) ≤ (a : Int) := Int.natCast_nonneg a
theorem cmm {a : Nat} {m : Int} (h : decide (m ≤ 0) = true) : m ≤ (a : Int) := Int.le_trans (of_decide_eq_true h) (Int.natCast_nonneg a)
theorem cw {a n : Nat} {m : Int} (h : a < n) (hn : decide ((n : Int) ≤ m) = true) : (a : Int) < m := Int.lt_of_lt_of_le (Int.ofNat_lt.mpr h) (of_decide_eq_true hn)
theorem cwl {a n : Nat} {m : Int} (h : a < n) (hn : decide ((n : Int) ≤ m) = true) : (a : Int) ≤ m := Int.le_of_lt (cw h hn)
theorem sub1 {k : Nat} (h : k > 0) : k - 1 < k := Nat.sub_lt h Nat.one_pos
inductive Pins (m : Str → Option Value) : List (Str × Value) → Prop
  | nil : Pins m []
  | cons {x : Str} {v : Value} {l : List (Str × Value)} (h : m x = some v) (t : Pins m l) : Pins m ((x, v) :: l)
noncomputable def pinned (l : List (Str × Value)) (m : Str → Option Value) : Str → Option Value := fun y => match l.lookup y with
  | some v => some v
  | none => m y
theorem Pins.at {m : Str → Option Value} {l : List (Str × Value)} (P : Pins m l) : ∀ {y : Str} {v : Value}, l.lookup y = some v → m y = some v := by
  induction P with
  | nil => intro y v h; cases h
  | @cons x w l h t ih =>
    intro y v hy
    rw [List.lookup_cons] at hy
    by_cases e : y = x
    · subst e
      simp at hy
      rw [h, hy]
    · rw [beq_eq_false_iff_ne.mpr e] at hy
      exact ih hy
theorem Pins.eq {m : Str → Option Value} {l : List (Str × Value)} (P : Pins m l) : pinned l m = m := by
  funext y
  unfold pinned
  cases h : l.lookup y with
  | none => rfl
  | some v => exact (P.at h).symm
theorem fr_pins {h₀ h : Heap} {L : Addr} {m : Str → Option Value} {l : List (Str × Value)} (F : Fr h₀ L h m) (P : Pins m l) : Fr h₀ L h (pinned l m) := by rw [P.eq]; exact F
inductive Off (x : Str) : List (Str × Value) → Prop
  | nil : Off x []
  | cons {z : Str} {v : Value} {l : List (Str × Value)} (h : ¬ z = x) (t : Off x l) : Off x ((z, v) :: l)
theorem Pins.skip {m : Str → Option Value} {l : List (Str × Value)} {x : Str} {w : Option Value} (P : Pins m l) (O : Off x l) : Pins (fun y => if y = x then w else m y) l := by
  induction P with
  | nil => exact .nil
  | cons hz t ih =>
    cases O with
    | cons h O => exact .cons ((if_neg h).trans hz) (ih O)
end Mine
end XFold
open PySem PySem.W PyProof.Rows PySem.Calls
namespace Mine
local macro_rules | `(tactic| walk_at "lims") => `(tactic| with_reducible first | exact limz (by assumption) | exact lim0 (by assumption) (by decide) | exact lim1 (by assumption) (by decide) | exact lim2 (by assumption) (by decide))
local macro_rules | `(tactic| omega) => `(tactic| first | with_reducible assumption | decide | walk_at "lims" | (with_reducible first | exact lw (by assumption) (by decide) | exact llw (by assumption) (by decide) | exact lwe (by assumption) (by assumption) (by decide) | exact lwl (by assumption) (by assumption) (by decide) | exact llt (by assumption) (by decide) | exact lel (by assumption) (by decide) | exact lll (by assumption) (by assumption) (by decide) | exact lllt (by assumption) (by assumption) (by decide) | exact cnn | exact cmm (by decide) | exact cw (by assumption) (by decide) | exact cwl (by assumption) (by decide) | exact sub1 (by assumption)) | lia)
local macro_rules | `(tactic| ktr_room) => `(tactic| ((try simp only [depth_under_make, depth_under_kw, depth_in1, depth_deeper, depth_caller]); (try dsimp only [ktrTop]); first | decide | walk_at "lims"))
local macro_rules | `(tactic| ktr_units) => `(tactic| ((try simp only [units_in1, units_deeper, Around.mark_units, units_caller]); (try dsimp only [ktrTop]); walk_at "lims"))
set_option hygiene false in
local macro_rules | `(tactic| walk_at "fold") => `(tactic| ((try clear q9); (try clear q8); (try clear q7); (try clear q6); (try clear q5); (try clear q4); (try clear q3); (try clear q2); (try clear q1); first | ((fail_if_success (have h9 := q1)); refine (let q1 : _ := _; (?_ : wpAny _ _ _ q1 _ _))) | ((fail_if_success (have h9 := q2)); refine (let q2 : _ := _; (?_ : wpAny _ _ _ q2 _ _))) | ((fail_if_success (have h9 := q3)); refine (let q3 : _ := _; (?_ : wpAny _ _ _ q3 _ _))) | ((fail_if_success (have h9 := q4)); refine (let q4 : _ := _; (?_ : wpAny _ _ _ q4 _ _))) | ((fail_if_success (have h9 := q5)); refine (let q5 : _ := _; (?_ : wpAny _ _ _ q5 _ _))) | ((fail_if_success (have h9 := q6)); refine (let q6 : _ := _; (?_ : wpAny _ _ _ q6 _ _))) | ((fail_if_success (have h9 := q7)); refine (let q7 : _ := _; (?_ : wpAny _ _ _ q7 _ _))) | ((fail_if_success (have h9 := q8)); refine (let q8 : _ := _; (?_ : wpAny _ _ _ q8 _ _))) | ((fail_if_success (have h9 := q9)); refine (let q9 : _ := _; (?_ : wpAny _ _ _ q9 _ _)))))
set_option hygiene false in
local macro_rules | `(tactic| walk_at "foldE") => `(tactic| (first | (fail_if_success k_fold) | ((try clear e3); (try clear e2); (try clear e1); first | ((fail_if_success (have h9 := e1)); refine (let e1 : Value → Shared → Prop := _; (?_ : wpAny _ _ _ _ e1 _))) | ((fail_if_success (have h9 := e2)); refine (let e2 : Value → Shared → Prop := _; (?_ : wpAny _ _ _ _ e2 _))) | ((fail_if_success (have h9 := e3)); refine (let e3 : Value → Shared → Prop := _; (?_ : wpAny _ _ _ _ e3 _))))))
set_option hygiene false in
local macro_rules | `(tactic| walk_at "hide") => `(tactic| ((with_reducible first | show wpAny _ _ _ _ _ _ | show Held _ | show TEnd _ _ _ _ _ _ _ | show GEnd _ _ _ _ _ _ _ | show wpC _ _ _ _ _ _ | show ∃ _, _ | show LoopStepU _ _ _ _ _ _ _ _ | show LCg.CompEnd _ _ _ _ _ _ _ _ _ _ _ _ _ _ | show codeAny _ _ _ _ _); (try clear g1); refine (let g1 : Prop := _; (?_ : g1))))
local macro_rules | `(tactic| obtain $p:rcasesPatMed := $e:term) => `(tactic| (walk_at "hide"; (rcases $e:term with $p:rcasesPatMed) <;> k_unfold))
local macro_rules | `(tactic| obtain $p:rcasesPatMed : $t:term := $e:term) => `(tactic| (walk_at "hide"; (rcases ($e : $t) with $p:rcasesPatMed) <;> k_unfold))
local macro_rules | `(tactic| walk_at "execs cons") => `(tactic| (walk_at "foldE"; (with_reducible refine execs_consA ?_)))
local macro_rules | `(tactic| k_unfold) => `(tactic| first | (with_reducible first | refine afterS_next ?_ | refine afterS_ret ?_ | refine afterS_brk ?_ | refine afterS_cont ?_) | ((fail_if_success (fail_if_success k_fold)); (fail_if_success (with_reducible first | show wpAny _ _ (eval (PySem.Expr.Slice _ _ _ _) _) _ _ _ | show wpAny _ _ (evalPart _ _) _ _ _ | show wpAny _ _ (setItem _ _ _) _ _ _)); walk_at "fold"))
local macro_rules | `(tactic| walk_at $s:str) => `(tactic| k_extra $s)
local macro_rules | `(tactic| k_room) => `(tactic| ktr_room)
local macro_rules | `(tactic| k_in) => `(tactic| with_reducible first | assumption | exact Frag.In.keeps (by assumption) (Fr.keep (by assumption)))
local macro_rules | `(tactic| k_units) => `(tactic| ktr_units)
local macro_rules | `(tactic| k_mem) => `(tactic| first | assumption | exact List.Mem.head _ | (refine' List.mem_cons_of_mem _ ?_; k_mem))
local macro_rules | `(tactic| is_list) => `(tactic| exact News.isList (by assumption) (by k_mem))
section XBis
set_option maxRecDepth 100000
example (w : World) : (Mine.hd.heap_39 w.params) = Mine.hd.heap_39 w.params ∧ PySem.Challenge.rw_xp0032_01 = PySem.Challenge.rw_xp0032_01 := by
  k_fill
  exact ⟨rfl, rfl⟩

example : True := by
  k_with_none
  trivial

noncomputable def bis (f : Int → Int) (ns : List Int) (x : Int) : Nat → Nat → Nat → Nat
  | 0, lo, _ => lo
  | k + 1, lo, hi => if lo < hi then (if f (ns.getD ((lo + hi) / 2) 0) < x then bis f ns x k ((lo + hi) / 2 + 1) hi else bis f ns x k lo ((lo + hi) / 2)) else lo
theorem bis_mid {a b : Nat} (h : a < b) : a ≤ (a + b) / 2 ∧ (a + b) / 2 < b := ⟨(Nat.le_div_iff_mul_le (by decide)).mpr (by omega), (Nat.div_lt_iff_lt_mul (by decide)).mpr (by omega)⟩
theorem bis_f1 {lo hi m k : Nat} (h : hi - lo ≤ k + 1) (h1 : lo ≤ m) : hi - (m + 1) ≤ k := by omega
theorem bis_f2 {lo hi m k : Nat} (h : hi - lo ≤ k + 1) (h2 : m < hi) : m - lo ≤ k := by omega
theorem bis_no {lo hi : Nat} (h : hi - lo ≤ 0) : ¬ lo < hi := by omega
theorem bis_fuel (f : Int → Int) (ns : List Int) (x : Int) : ∀ k k' lo hi, hi - lo ≤ k → hi - lo ≤ k' → bis f ns x k lo hi = bis f ns x k' lo hi := by
  intro k
  induction k with
  | zero =>
    intro k' lo hi h1 h2
    cases k' with
    | zero => rfl
    | succ k' => exact (if_neg (bis_no h1)).symm
  | succ k ih =>
    intro k' lo hi h1 h2
    cases k' with
    | zero => exact if_neg (bis_no h2)
    | succ k' =>
      by_cases h : lo < hi
      · refine (if_pos h).trans (Eq.trans ?_ (if_pos h).symm)
        obtain ⟨m1, m2⟩ := bis_mid h
        rw [ih k' ((lo + hi) / 2 + 1) hi (bis_f1 h1 m1) (bis_f1 h2 m1), ih k' lo ((lo + hi) / 2) (bis_f2 h1 m2) (bis_f2 h2 m2)]
      · exact (if_neg h).trans (if_neg h).symm
theorem bis_step (f : Int → Int) (ns : List Int) (x : Int) {a b : Nat} (h : a < b) : bis f ns x (b - a) a b = if f (ns.getD ((a + b) / 2) 0) < x then bis f ns x (b - ((a + b) / 2 + 1)) ((a + b) / 2 + 1) b else bis f ns x ((a + b) / 2 - a) a ((a + b) / 2) := by
  obtain ⟨m1, m2⟩ := bis_mid h
  obtain ⟨k, hk⟩ : ∃ k, b - a = k + 1 := ⟨b - a - 1, (Nat.sub_add_cancel (Nat.sub_pos_of_lt h)).symm⟩
  rw [bis_fuel f ns x (b - ((a + b) / 2 + 1)) k _ _ (Nat.le_refl _) (bis_f1 (Nat.le_of_eq hk) m1), bis_fuel f ns x ((a + b) / 2 - a) k _ _ (Nat.le_refl _) (bis_f2 (Nat.le_of_eq hk) m2), hk]
  exact if_pos h
noncomputable def BisW (f : Int → Int) (ns : List Int) (x lo hi : Int) : Prop := 0 ≤ lo ∧ lo ≤ hi ∧ hi ≤ ns.length ∧ bis f ns x (hi.toNat - lo.toNat) lo.toNat hi.toNat = bis f ns x ns.length 0 ns.length
theorem bisW_start (f : Int → Int) (ns : List Int) (x : Int) : BisW f ns x 0 ns.length := ⟨Int.le_refl _, Int.natCast_nonneg _, Int.le_refl _, rfl⟩
theorem bisW_end {f : Int → Int} {ns : List Int} {x lo hi : Int} (h : BisW f ns x lo hi) (hn : ¬ lo < hi) : lo = (bis f ns x ns.length 0 ns.length : Nat) := by
  obtain ⟨h0, h1, h2, h3⟩ := h
  obtain rfl : lo = hi := Int.le_antisymm h1 (Int.not_lt.mp hn)
  obtain ⟨a, rfl⟩ := Int.eq_ofNat_of_zero_le h0
  rw [Nat.sub_self] at h3
  exact congrArg (fun n : Nat => (n : Int)) h3
theorem bis_fdiv (a b : Nat) : Int.fdiv ((a : Int) + (b : Int)) 2 = (((a + b) / 2 : Nat) : Int) := (Int.ofNat_fdiv (a + b) 2).symm
theorem bisW_up {f : Int → Int} {ns : List Int} {x lo hi : Int} (h : BisW f ns x lo hi) (hl : lo < hi) (hx : f (ns.getD (Int.fdiv (lo + hi) 2).toNat 0) < x) : BisW f ns x (Int.fdiv (lo + hi) 2 + 1) hi := by
  obtain ⟨h0, h1, h2, h3⟩ := h
  obtain ⟨a, rfl⟩ := Int.eq_ofNat_of_zero_le h0
  obtain ⟨b, rfl⟩ := Int.eq_ofNat_of_zero_le (Int.le_trans h0 h1)
  have hab : a < b := Int.ofNat_lt.mp hl
  rw [bis_fdiv] at hx ⊢
  exact ⟨Int.natCast_nonneg ((a + b) / 2 + 1), Int.ofNat_le.mpr (bis_mid hab).2, h2, ((if_pos hx).symm.trans (bis_step f ns x hab).symm).trans h3⟩
theorem bisW_down {f : Int → Int} {ns : List Int} {x lo hi : Int} (h : BisW f ns x lo hi) (hl : lo < hi) (hx : ¬ f (ns.getD (Int.fdiv (lo + hi) 2).toNat 0) < x) : BisW f ns x lo (Int.fdiv (lo + hi) 2) := by
  obtain ⟨h0, h1, h2, h3⟩ := h
  obtain ⟨a, rfl⟩ := Int.eq_ofNat_of_zero_le h0
  obtain ⟨b, rfl⟩ := Int.eq_ofNat_of_zero_le (Int.le_trans h0 h1)
  have hab : a < b := Int.ofNat_lt.mp hl
  rw [bis_fdiv] at hx ⊢
  obtain ⟨m1, m2⟩ := bis_mid hab
  exact ⟨h0, Int.ofNat_le.mpr m1, Int.le_trans (Int.ofNat_le.mpr (Nat.le_of_lt m2)) h2, ((if_neg hx).symm.trans (bis_step f ns x hab).symm).trans h3⟩

theorem bisP_up {f : Int → Int} {ns : List Int} {x lo hi : Int} (hl : lo < hi) (h : BisW f ns x lo hi) (hx : f (ns.getD (Int.fdiv (lo + hi) 2).toNat 0) < x) : 0 ≤ Int.fdiv (lo + hi) 2 + 1 ∧ Int.fdiv (lo + hi) 2 + 1 ≤ hi ∧ hi ≤ (ns.length : Int) ∧ BisW f ns x (Int.fdiv (lo + hi) 2 + 1) hi := by
  have q := bisW_up h hl hx
  exact ⟨q.1, q.2.1, q.2.2.1, q⟩
theorem bisP_down {f : Int → Int} {ns : List Int} {x lo hi : Int} (hl : lo < hi) (h : BisW f ns x lo hi) (hx : ¬ f (ns.getD (Int.fdiv (lo + hi) 2).toNat 0) < x) : 0 ≤ lo ∧ lo ≤ Int.fdiv (lo + hi) 2 ∧ Int.fdiv (lo + hi) 2 ≤ (ns.length : Int) ∧ BisW f ns x lo (Int.fdiv (lo + hi) 2) := by
  have q := bisW_down h hl hx
  exact ⟨q.1, q.2.1, q.2.2.1, q⟩
theorem bisP_up0 {ns : List Int} {x lo hi : Int} (hl : lo < hi) (h : BisW id ns x lo hi) (hx : ns.getD (Int.fdiv (lo + hi) 2).toNat 0 < x) : 0 ≤ Int.fdiv (lo + hi) 2 + 1 ∧ Int.fdiv (lo + hi) 2 + 1 ≤ hi ∧ hi ≤ (ns.length : Int) ∧ BisW id ns x (Int.fdiv (lo + hi) 2 + 1) hi := bisP_up hl h hx
theorem bisP_down0 {ns : List Int} {x lo hi : Int} (hl : lo < hi) (h : BisW id ns x lo hi) (hx : ¬ ns.getD (Int.fdiv (lo + hi) 2).toNat 0 < x) : 0 ≤ lo ∧ lo ≤ Int.fdiv (lo + hi) 2 ∧ Int.fdiv (lo + hi) 2 ≤ (ns.length : Int) ∧ BisW id ns x lo (Int.fdiv (lo + hi) 2) := bisP_down hl h hx
theorem mid_up {lo hi : Int} (h0 : 0 ≤ lo) (hl : lo < hi) : (hi - (Int.fdiv (lo + hi) 2 + 1)).toNat < (hi - lo).toNat := by
  rw [Int.fdiv_eq_ediv_of_nonneg _ (by omega)]; omega
theorem mid_dn {lo hi : Int} (h0 : 0 ≤ lo) (hl : lo < hi) : (Int.fdiv (lo + hi) 2 - lo).toNat < (hi - lo).toNat := by
  rw [Int.fdiv_eq_ediv_of_nonneg _ (by omega)]; omega
section
variable {prog : Program} {w : World} {p : Program} {loose : List Str} {mean : ExcName → Option Value} {mg mb : Str → Option Value}
set_option maxHeartbeats 8000000 in
theorem bisC {dp un : Nat} {gd : Option (List Code)} {cn : Str} {cs : Scope} {a : Addr} {ccd : Value} {cl : List (Str × Addr)} {outer : List Env} {A₀ : Around} {base h₀ : Heap} {L : Addr} {m : Str → Option Value} {s : Shared} {Q E : Value → Shared → Prop} {news : List (Addr × Obj)} {l : Addr} {ws : List Value} {n : Nat} {ns : List Int} {x : Int} {tx tlo : Tok}
    (B : Below A₀ base outer h₀) (F : Fr h₀ L s.heap m) (X : (Mine.hd.heap_39 w.params).In h₀) (N : News h₀ L s.heap news) (T : Top p loose mean mg mb h₀) (hk : cs.kind = .function)
    (hm : (l, listOf ws.toArray n) ∈ news) (hi : IntsAre ws ns) (hlen : ns.length < 2 ^ 20) (hd : dp + 6 < recursionLimit) (hu : un + 40 < cLine)
    (hret : ∀ (t : Tok) (h' : Heap) (tk' : Nat), Fr h₀ L h' m → News h₀ L h' news → Q (.int (bis id ns x ns.length 0 ns.length) t) { s with heap := h', toks := tk' }) :
    wpAny (model prog w) (ktrTop dp un gd cn cs L a ccd cl outer) (call (.ref 56) [.ref l, .int x tx, .int 0 tlo, .none]) Q E s := by
  refine wpAny_call ?_
  k_dflt (refine' code_def ?k1 ?k2 ?k3 ?k4 ?k5 ?kA ?kF ?kK ?k6 ?k7 ?k8 ?k9 ?kB ?_ ?c2 ?c3 ?c4 ?c5; (case kA => exact rfl); (case kF => exact rfl); (case kK => first | assumption | exact rfl); (case k1 => k_asm); (case k2 => k_asm); (case k3 => k_asm); (case k4 => k_asm); (case k5 => k_asm); (case k6 => k_is); (case k7 => k_is); (case k8 => ktr_room); (case k9 => first | exact BindsTo.of_eq rfl | exact binds_K (by k_in) rfl (by k_is) rfl rfl rfl | (refine' kp_binds ?kx ?ke; (case kx => k_in); (case ke => exact fun _ => rfl)) | fail "x_enter: no rule for these arguments"); (case c5 => decide); (case kB => exact locs rfl); (case c2 => exact rfl); (case c3 => exact rfl); (case c4 => exact rfl); k_whole; intro g' L' h' FG' F' N' B' X' T'; (try dsimp only); (try k_lift B'); (try k_fold))
  k_with "exec While Compare cons nil" => k_while (fun _ lo hi => 0 ≤ lo ∧ lo ≤ hi ∧ hi ≤ (ns.length : Int) ∧ BisW id ns x lo hi) (fun _ lo hi => (hi - lo).toNat) "lo" "hi"
  k_with "measure" => first | exact mid_up (by assumption) (by assumption) | exact mid_dn (by assumption) (by assumption)
  k_with "state" => first | exact ⟨by omega, by omega, by omega, bisW_start _ _ _⟩ | exact bisP_up0 (by assumption) (by assumption) (by assumption) | exact bisP_down0 (by assumption) (by assumption) (by assumption) | (trace_state; fail "state")
  k_steps
  refine cb_retI hret ?_ (by k_asm) (by k_asm)
  exact bisW_end (by assumption) (by assumption)
noncomputable def KeyOk (prog : Program) (w : World) (p : Program) (loose : List Str) (mean : ExcName → Option Value) (mg mb : Str → Option Value) (f : Addr) (g : Int → Int) (news : List (Addr × Obj)) : Prop :=
  ∀ (dp un : Nat) (gd : Option (List Code)) (cn : Str) (cs : Scope) (a : Addr) (ccd : Value) (cl : List (Str × Addr)) (outer : List Env) (A₀ : Around) (base h₀ : Heap) (L : Addr) (m : Str → Option Value) (s : Shared) (Q E : Value → Shared → Prop) (v : Int) (tv : Tok),
    Below A₀ base outer h₀ → Fr h₀ L s.heap m → (Mine.hd.heap_39 w.params).In h₀ → News h₀ L s.heap news → Top p loose mean mg mb h₀ → cs.kind = .function → dp + 4 < recursionLimit → un + 20 < cLine →
    (∀ (t : Tok) (h' : Heap) (tk' : Nat), Fr h₀ L h' m → News h₀ L h' news → Q (.int (g v) t) { s with heap := h', toks := tk' }) →
    wpAny (model prog w) (ktrTop dp un gd cn cs L a ccd cl outer) (call (.ref f) [.int v tv]) Q E s
theorem KeyOk.use {f : Addr} {g : Int → Int} {dp un : Nat} {gd : Option (List Code)} {cn : Str} {cs : Scope} {a : Addr} {ccd : Value} {cl : List (Str × Addr)} {outer : List Env} {A₀ : Around} {base h₀ : Heap} {L : Addr} {m : Str → Option Value} {s : Shared} {Q E : Value → Shared → Prop} {news : List (Addr × Obj)} {v : Int} {tv : Tok} (C : KeyOk prog w p loose mean mg mb f g news)
    (B : Below A₀ base outer h₀) (F : Fr h₀ L s.heap m) (X : (Mine.hd.heap_39 w.params).In h₀) (N : News h₀ L s.heap news) (T : Top p loose mean mg mb h₀) (hk : cs.kind = .function) (hd : dp + 4 < recursionLimit) (hu : un + 20 < cLine)
    (hret : ∀ (t : Tok) (h' : Heap) (tk' : Nat), Fr h₀ L h' m → News h₀ L h' news → Q (.int (g v) t) { s with heap := h', toks := tk' }) :
    wpAny (model prog w) (ktrTop dp un gd cn cs L a ccd cl outer) (call (.ref f) [.int v tv]) Q E s := C _ _ _ _ _ _ _ _ _ _ _ _ _ _ _ _ _ _ _ B F X N T hk hd hu hret
example : True := by
  k_with "call ref" => (k_here; k_dflt (refine' KeyOk.use ?wkkC ?wkk1 ?wkk2 ?wkk3 ?wkk4 ?wkk5 ?wkkK ?wkkd ?wkku ?_; (case wkkC => with_reducible assumption); (case wkk1 => k_asm); (case wkk2 => k_asm); (case wkk3 => k_asm); (case wkk4 => k_asm); (case wkk5 => k_asm); (case wkkK => first | exact rfl | assumption); (case wkkd => ktr_room); (case wkku => ktr_units)); intro _ _ _ _ _; (try dsimp only); (try k_fold))
  k_with "callWith ref" => (k_here; k_dflt (refine' callWith_F ?wkk1 ?_; (case wkk1 => exact FnAt.of (by k_asm) (by assumption)); k_whole))
  trivial
set_option maxHeartbeats 8000000 in
theorem bisK {dp un : Nat} {gd : Option (List Code)} {cn : Str} {cs : Scope} {a : Addr} {ccd : Value} {cl : List (Str × Addr)} {outer : List Env} {A₀ : Around} {base h₀ : Heap} {L : Addr} {m : Str → Option Value} {s : Shared} {Q E : Value → Shared → Prop} {news : List (Addr × Obj)} {foc : Value} {fod : Option Addr} {fd : FuncData} {fsl : Array (Option Value)} {l f : Addr} {ws : List Value} {n : Nat} {ns : List Int} {x : Int} {tx tlo : Tok} {g : Int → Int}
    (B : Below A₀ base outer h₀) (F : Fr h₀ L s.heap m) (X : (Mine.hd.heap_39 w.params).In h₀) (N : News h₀ L s.heap news) (T : Top p loose mean mg mb h₀) (hk : cs.kind = .function) (C : KeyOk prog w p loose mean mg mb f g news) (hfn : (f, (⟨foc, fod, .func fd, fsl⟩ : Obj)) ∈ news)
    (hm : (l, listOf ws.toArray n) ∈ news) (hi : IntsAre ws ns) (hlen : ns.length < 2 ^ 20) (hd : dp + 6 < recursionLimit) (hu : un + 40 < cLine)
    (hret : ∀ (t : Tok) (h' : Heap) (tk' : Nat), Fr h₀ L h' m → News h₀ L h' news → Q (.int (bis g ns x ns.length 0 ns.length) t) { s with heap := h', toks := tk' }) :
    wpAny (model prog w) (ktrTop dp un gd cn cs L a ccd cl outer) (call (.ref 56) [.ref l, .int x tx, .int 0 tlo, .none] [(Str.ofString "key", .ref f)]) Q E s := by
  refine wpAny_call ?_
  k_dflt (refine' code_def ?k1 ?k2 ?k3 ?k4 ?k5 ?kA ?kF ?kK ?k6 ?k7 ?k8 ?k9 ?kB ?_ ?c2 ?c3 ?c4 ?c5; (case kA => exact rfl); (case kF => exact rfl); (case kK => first | assumption | exact rfl); (case k1 => k_asm); (case k2 => k_asm); (case k3 => k_asm); (case k4 => k_asm); (case k5 => k_asm); (case k6 => k_is); (case k7 => k_is); (case k8 => ktr_room); (case k9 => first | exact BindsTo.of_eq rfl | exact binds_K (by k_in) rfl (by k_is) rfl rfl rfl | (refine' kp_binds ?kx ?ke; (case kx => k_in); (case ke => exact fun _ => rfl)) | fail "x_enter: no rule for these arguments"); (case c5 => decide); (case kB => exact locs rfl); (case c2 => exact rfl); (case c3 => exact rfl); (case c4 => exact rfl); k_whole; intro g' L' h' FG' F' N' B' X' T'; (try dsimp only); (try k_lift B'); (try k_fold))
  k_with "exec While Compare cons nil" => k_while (fun _ lo hi => 0 ≤ lo ∧ lo ≤ hi ∧ hi ≤ (ns.length : Int) ∧ BisW g ns x lo hi) (fun _ lo hi => (hi - lo).toNat) "lo" "hi"
  k_with "measure" => first | exact mid_up (by assumption) (by assumption) | exact mid_dn (by assumption) (by assumption)
  k_with "state" => first | exact ⟨by omega, by omega, by omega, bisW_start _ _ _⟩ | exact bisP_up (by assumption) (by assumption) (by assumption) | exact bisP_down (by assumption) (by assumption) (by assumption) | (trace_state; fail "state")
  k_steps
  refine cb_retI hret ?_ (by k_asm) (by k_asm)
  exact bisW_end (by assumption) (by assumption)
end
end XBis
section XIns
set_option maxRecDepth 100000

example : True := by
  k_with_none
  trivial

section
variable {prog : Program} {w : World} {p : Program} {loose : List Str} {mean : ExcName → Option Value} {mg mb : Str → Option Value}
theorem klins_ints {ws : List Value} {ns : List Int} (hi : IntsAre ws ns) (p : Nat) (hp : p ≤ ns.length) (x : Int) (tx : Tok) : IntsAre (kl_ins ws (p : Int) (.int x tx)) (ns.take p ++ x :: ns.drop p) := by
  have hl := hi.length
  unfold kl_ins
  rw [if_neg (by omega)]
  have e : min (p : Int).toNat ws.length = p := by rw [Int.toNat_natCast, hl]; omega
  rw [e]
  clear e hl
  induction hi generalizing p with
  | nil =>
    cases p with
    | zero => exact .cons x tx .nil
    | succ p => exact absurd hp (by simp)
  | cons k t r ih =>
    cases p with
    | zero => exact .cons x tx (.cons k t r)
    | succ p => exact .cons k t (ih p (by simpa using hp))
theorem bis_le (f : Int → Int) (ns : List Int) (x : Int) : ∀ k lo hi, lo ≤ ns.length → hi ≤ ns.length → bis f ns x k lo hi ≤ ns.length := by
  intro k
  induction k with
  | zero => intro lo hi h1 h2; exact h1
  | succ k ih =>
    intro lo hi h1 h2
    unfold bis
    split
    · split
      · exact ih _ _ (by omega) h2
      · exact ih _ _ h1 (by omega)
    · exact h1
example : True := by
  k_with "call ref" => (k_here; k_dflt (refine' bisC ?wkk1 ?wkk2 ?wkk3 ?wkk4 ?wkk5 ?wkkK ?wkka ?wkkb ?wkkc ?wkkd ?wkku ?_; (case wkk1 => k_asm); (case wkk2 => k_asm); (case wkk3 => k_asm); (case wkk4 => k_asm); (case wkk5 => k_asm); (case wkkK => first | exact rfl | assumption); (case wkkd => ktr_room); (case wkku => first | ktr_units | (show un + 1 + 150 < cLine; ktr_units) | (show un + 1 + 3 + 150 < cLine; ktr_units)); (case wkka => assumption); (case wkkb => assumption); (case wkkc => assumption)); intro _ _ _ _ _; (try dsimp only); (try k_fold))
  k_with "call ref" => (k_here; with_unfolding_all (refine' bisK ?wkk1 ?wkk2 ?wkk3 ?wkk4 ?wkk5 ?wkkK ?wkkC ?wkkf ?wkka ?wkkb ?wkkc ?wkkd ?wkku ?_; (case wkk1 => k_asm); (case wkk2 => k_asm); (case wkk3 => k_asm); (case wkk4 => k_asm); (case wkk5 => k_asm); (case wkkK => first | exact rfl | assumption); (case wkkd => ktr_room); (case wkku => first | ktr_units | (show un + 1 + 150 < cLine; ktr_units) | (show un + 1 + 3 + 150 < cLine; ktr_units)); (case wkkC => assumption); (case wkkf => assumption); (case wkka => assumption); (case wkkb => assumption); (case wkkc => assumption)); intro _ _ _ _ _; (try dsimp only); (try k_fold))
  k_with "call ref" => (k_here; k_dflt (refine' KeyOk.use ?wkkC ?wkk1 ?wkk2 ?wkk3 ?wkk4 ?wkk5 ?wkkK ?wkkd ?wkku ?_; (case wkkC => with_reducible assumption); (case wkk1 => k_asm); (case wkk2 => k_asm); (case wkk3 => k_asm); (case wkk4 => k_asm); (case wkk5 => k_asm); (case wkkK => first | exact rfl | assumption); (case wkkd => ktr_room); (case wkku => first | ktr_units | (show un + 1 + 150 < cLine; ktr_units) | (show un + 1 + 3 + 150 < cLine; ktr_units))); intro _ _ _ _ _; (try dsimp only); (try k_fold))
  k_with "callWith ref" => (k_here; k_dflt (refine' callWith_F ?wkk1 ?_; (case wkk1 => exact FnAt.of (by k_asm) (by assumption)); k_whole))
  trivial
theorem fits_idx {p : Nat} (h : p < 2 ^ 20) : Builtin.List.listFitsIndex (p : Int) = true := by
  unfold Builtin.List.listFitsIndex
  simp
  omega
example : True := by
  k_with "call builtin:list.insert" => (k_here; k_dflt (refine' kl_insert ?wkF ?wkN ?wkf rfl ?wkU ?wkz ?_; (case wkF => k_asm); (case wkN => k_asm); (case wkU => assumption); (case wkf => exact fits_idx (by assumption)); (case wkz => assumption)); intro _ _ _; (try dsimp only); (try k_fold))
  trivial
set_option maxHeartbeats 8000000 in
theorem insC {dp un : Nat} {gd : Option (List Code)} {cn : Str} {cs : Scope} {a : Addr} {ccd : Value} {cl : List (Str × Addr)} {outer : List Env} {A₀ : Around} {base h₀ : Heap} {L : Addr} {m : Str → Option Value} {s : Shared} {Q E : Value → Shared → Prop} {news : List (Addr × Obj)} {l : Addr} {ws : List Value} {n : Nat} {ns : List Int} {x : Int} {tx : Tok} {news' : List (Addr × Obj)}
    (B : Below A₀ base outer h₀) (F : Fr h₀ L s.heap m) (X : (Mine.hd.heap_39 w.params).In h₀) (N : News h₀ L s.heap news) (T : Top p loose mean mg mb h₀) (hk : cs.kind = .function)
    (hm : (l, listOf ws.toArray n) ∈ news) (hi : IntsAre ws ns) (hlen : ns.length < 2 ^ 20) (hd : dp + 8 < recursionLimit) (hu : un + 60 < cLine)
    (U : Upd l (listOf ws.toArray n) (listOf (kl_ins ws ((bis id ns x ns.length 0 ns.length : Nat) : Int) (.int x tx)).toArray (n + 1)) news news')
    (hret : ∀ (h' : Heap) (tk' : Nat), Fr h₀ L h' m → News h₀ L h' news' → Q .none { s with heap := h', toks := tk' }) :
    wpAny (model prog w) (ktrTop dp un gd cn cs L a ccd cl outer) (call (.ref 47) [.ref l, .int x tx]) Q E s := by
  have hp : bis id ns x ns.length 0 ns.length < 2 ^ 20 := Nat.lt_of_le_of_lt (bis_le id ns x _ _ _ (Nat.zero_le _) (Nat.le_refl _)) hlen
  have hz : ws.toArray.toList.length ≤ sizeLine := by rw [sizeLine_eq]; have := hi.length; simp; omega
  refine wpAny_call ?_
  k_dflt (refine' code_def ?k1 ?k2 ?k3 ?k4 ?k5 ?kA ?kF ?kK ?k6 ?k7 ?k8 ?k9 ?kB ?_ ?c2 ?c3 ?c4 ?c5; (case kA => exact rfl); (case kF => exact rfl); (case kK => first | assumption | exact rfl); (case k1 => k_asm); (case k2 => k_asm); (case k3 => k_asm); (case k4 => k_asm); (case k5 => k_asm); (case k6 => k_is); (case k7 => k_is); (case k8 => ktr_room); (case k9 => first | exact BindsTo.of_eq rfl | exact binds_K (by k_in) rfl (by k_is) rfl rfl rfl | (refine' kp_binds ?kx ?ke; (case kx => k_in); (case ke => exact fun _ => rfl)) | fail "x_enter: no rule for these arguments"); (case c5 => decide); (case kB => exact locs rfl); (case c2 => exact rfl); (case c3 => exact rfl); (case c4 => exact rfl); k_whole; intro g' L' h' FG' F' N' B' X' T'; (try dsimp only); (try k_lift B'); (try k_fold))
  k_steps
  exact hret _ _ (by k_asm) (by k_asm)
set_option maxHeartbeats 8000000 in
theorem insK {dp un : Nat} {gd : Option (List Code)} {cn : Str} {cs : Scope} {a : Addr} {ccd : Value} {cl : List (Str × Addr)} {outer : List Env} {A₀ : Around} {base h₀ : Heap} {L : Addr} {m : Str → Option Value} {s : Shared} {Q E : Value → Shared → Prop} {news : List (Addr × Obj)} {l f : Addr} {ws : List Value} {n : Nat} {ns : List Int} {x : Int} {tx : Tok} {news' : List (Addr × Obj)} {g : Int → Int} {foc : Value} {fod : Option Addr} {fd : FuncData} {fsl : Array (Option Value)}
    (B : Below A₀ base outer h₀) (F : Fr h₀ L s.heap m) (X : (Mine.hd.heap_39 w.params).In h₀) (N : News h₀ L s.heap news) (T : Top p loose mean mg mb h₀) (hk : cs.kind = .function) (C : KeyOk prog w p loose mean mg mb f g news) (hfn : (f, (⟨foc, fod, .func fd, fsl⟩ : Obj)) ∈ news)
    (hm : (l, listOf ws.toArray n) ∈ news) (hi : IntsAre ws ns) (hlen : ns.length < 2 ^ 20) (hd : dp + 8 < recursionLimit) (hu : un + 60 < cLine)
    (U : Upd l (listOf ws.toArray n) (listOf (kl_ins ws ((bis g ns (g x) ns.length 0 ns.length : Nat) : Int) (.int x tx)).toArray (n + 1)) news news')
    (hret : ∀ (h' : Heap) (tk' : Nat), Fr h₀ L h' m → News h₀ L h' news' → Q .none { s with heap := h', toks := tk' }) :
    wpAny (model prog w) (ktrTop dp un gd cn cs L a ccd cl outer) (call (.ref 47) [.ref l, .int x tx] [(Str.ofString "key", .ref f)]) Q E s := by
  have hp : bis g ns (g x) ns.length 0 ns.length < 2 ^ 20 := Nat.lt_of_le_of_lt (bis_le g ns (g x) _ _ _ (Nat.zero_le _) (Nat.le_refl _)) hlen
  have hz : ws.toArray.toList.length ≤ sizeLine := by rw [sizeLine_eq]; have := hi.length; simp; omega
  refine wpAny_call ?_
  k_dflt (refine' code_def ?k1 ?k2 ?k3 ?k4 ?k5 ?kA ?kF ?kK ?k6 ?k7 ?k8 ?k9 ?kB ?_ ?c2 ?c3 ?c4 ?c5; (case kA => exact rfl); (case kF => exact rfl); (case kK => first | assumption | exact rfl); (case k1 => k_asm); (case k2 => k_asm); (case k3 => k_asm); (case k4 => k_asm); (case k5 => k_asm); (case k6 => k_is); (case k7 => k_is); (case k8 => ktr_room); (case k9 => first | exact BindsTo.of_eq rfl | exact binds_K (by k_in) rfl (by k_is) rfl rfl rfl | (refine' kp_binds ?kx ?ke; (case kx => k_in); (case ke => exact fun _ => rfl)) | fail "x_enter: no rule for these arguments"); (case c5 => decide); (case kB => exact locs rfl); (case c2 => exact rfl); (case c3 => exact rfl); (case c4 => exact rfl); k_whole; intro g' L' h' FG' F' N' B' X' T'; (try dsimp only); (try k_lift B'); (try k_fold))
  k_steps
  all_goals trace_state
  exact hret _ _ (by k_asm) (by k_asm)
end
end XIns
section XTools
set_option maxRecDepth 100000

example : True := by
  k_with_none
  trivial

section
variable {h₀ h : Heap} {L d : Addr} {o o' : Obj} {led led' : List (Addr × Obj)}
noncomputable def turnTo (d : Addr) (o' : Obj) (led : List (Addr × Obj)) : List (Addr × Obj) := (d, o') :: led.filter (fun p => p.1 != d)
theorem turnTo_new : (d, o') ∈ turnTo d o' led := .head _
theorem turnTo_old {p : Addr × Obj} (hp : p ∈ led) (hn : p.1 ≠ d) : p ∈ turnTo d o' led := .tail _ (List.mem_filter.mpr ⟨hp, by simpa using hn⟩)
theorem turnTo_addr {p : Addr × Obj} (hm : (d, o) ∈ led) (hp : p ∈ turnTo d o' led) : ∃ q ∈ led, q.1 = p.1 := by
  rcases List.mem_cons.mp hp with rfl | hp
  · exact ⟨_, hm, rfl⟩
  · exact ⟨p, (List.mem_filter.mp hp).1, rfl⟩
theorem upd_turnTo : Upd d o o' (turnTo d o led) (turnTo d o' led) := .head fun p hp => by simpa using (List.mem_filter.mp hp).2
theorem news_turnTo (N : News h₀ L h led) (hm : (d, o) ∈ led) : News h₀ L h (turnTo d o led) := fun p hp => by
  rcases List.mem_cons.mp hp with rfl | hp
  · exact N _ hm
  · exact N _ (List.mem_filter.mp hp).1
theorem news_sub (N : News h₀ L h led) (hs : ∀ p ∈ led', p ∈ led) : News h₀ L h led' := fun p hp => N p (hs p hp)
theorem news_same (N : News h₀ L h led) (h1 : (d, o) ∈ led) (h2 : (d, o') ∈ led) : o = o' := Option.some.inj ((N _ h1).1.symm.trans (N _ h2).1)
end

section
variable {prog : Program} {w : World} {A : Around} {E : Value → Shared → Prop} {s : Shared} {env : Env} {h₀ : Heap} {x : Str} {body : List Stmt} {Q : Flow → Shared → Prop}
noncomputable def TEnd (h₀ : Heap) (L I : Addr) (ito : Obj) (Jn : (Str → Option Value) → List (Addr × Obj) → Prop) (s₁ s₂ : Shared) : Prop :=
  ∃ h' tk m' led', s₂ = { s₁ with heap := h', toks := tk } ∧ Fr h₀ L h' m' ∧ News h₀ L h' ((I, ito) :: led') ∧ (∀ p ∈ led', p.1 ≠ I) ∧ Jn m' led'
noncomputable def TPost (h₀ : Heap) (L I : Addr) (ito : Obj) (Jn : (Str → Option Value) → List (Addr × Obj) → Prop) (s₁ : Shared) (Q : Flow → Shared → Prop) (f : Flow) (s₂ : Shared) : Prop := match f with
  | .ret v => Q (.ret v) s₂
  | .brk => Q .next s₂
  | _ => TEnd h₀ L I ito Jn s₁ s₂
theorem TEnd.mk' {L I : Addr} {ito : Obj} {Jn : (Str → Option Value) → List (Addr × Obj) → Prop} {s₁ : Shared} {h' : Heap} {tk : Nat} {m' : Str → Option Value} {led' : List (Addr × Obj)}
    (F : Fr h₀ L h' m') (N : News h₀ L h' ((I, ito) :: led')) (ho : ∀ p ∈ led', p.1 ≠ I) (hj : Jn m' led') : TEnd h₀ L I ito Jn s₁ { s₁ with heap := h', toks := tk } := ⟨h', tk, m', led', rfl, F, N, ho, hj⟩

theorem iter_led {l : Addr} {vs : List Value} {n : Nat} {m₀ : Str → Option Value} {led₀ : List (Addr × Obj)} (J : Nat → (Str → Option Value) → List (Addr × Obj) → Prop)
    (hh : A.handled = none) (F : Fr h₀ env.locals s.heap m₀) (N : News h₀ env.locals s.heap led₀) (hl : (l, listOf vs.toArray n) ∈ led₀) (hj : J 0 m₀ led₀)
    (hkeep : ∀ i m led, J i m led → (l, listOf vs.toArray n) ∈ led)
    (turn : ∀ i v m₁ led₁ h tk I ito, vs[i]? = some v → J i m₁ led₁ → (∀ p ∈ led₁, p.1 ≠ I) → Fr h₀ env.locals h (fun y => if y = x then some v else m₁ y) → News h₀ env.locals h ((I, ito) :: led₁) →
      wpAny (model prog w) A (execs body env) (TPost h₀ env.locals I ito (J (i + 1)) { s with heap := h, toks := tk } Q) E { s with heap := h, toks := tk })
    (done : ∀ m₁ led₁ h tk, J vs.length m₁ led₁ → Fr h₀ env.locals h m₁ → News h₀ env.locals h led₁ → Q .next { s with heap := h, toks := tk }) :
    wpAny (model prog w) A (pyIter (.ref l)) (fun it s₂ => LoopAtV prog w A h₀ env x body Q E it s₂) E s := by
  have hls : s.heap.IsList l vs.toArray := N.isList hl
  have hlt : l < s.heap.objs.size := Heap.lt_size (N _ hl).1
  have hne : l ≠ s.heap.objs.size := Nat.ne_of_lt hlt
  have hll : l ≠ env.locals := (N _ hl).2.1
  refine wpAny_pyIter_list hls ?_
  have W := Walks.list (prog := prog) (w := w) hh s.heap.objs.size l hne vs.toArray
  have hlen : vs.toArray.size = vs.length := List.size_toArray ..
  rw [hlen] at W
  have hI₀ : h₀.get? s.heap.objs.size = none := by
    cases q : h₀.get? s.heap.objs.size with
    | none => rfl
    | some o => exact absurd (Heap.lt_size (F.keep _ _ q)) (Nat.lt_irrefl _)
  refine ⟨_, _, _, vs.length, _, _, m₀, led₀, J, rfl, W, ?_, ?_, ?_, ⟨⟨_, Heap.get?_push_size _ rfl, rfl, rfl⟩, hls.at fun o e => Heap.get?_push_of_some _ e⟩, F.push _, (fun p hp => ⟨Heap.get?_push_of_some _ (N p hp).1, (N p hp).2⟩), hj, ?_, ?_⟩
  · intro hm
    rcases List.mem_cons.mp hm with e | hm
    · exact absurd F.ns.lt (e ▸ Nat.lt_irrefl _)
    · exact hll (List.mem_singleton.mp hm).symm
  · intro b hb
    rw [List.mem_singleton.mp hb]; exact hI₀
  · intro p hp hI
    exact absurd (Heap.lt_size (N p hp).1) ((List.mem_singleton.mp hI) ▸ Nat.lt_irrefl _)
  · intro i v m₁ led₁ s₁ own hJ9 hin hP hJ hoff hown howng hall hst F₁ N₁
    obtain ⟨hh', tk', rfl⟩ := hJ9
    have hlm := hkeep i m₁ led₁ hJ
    obtain ⟨⟨ito, hito, _, _⟩, _⟩ := hst
    have hI : (s.heap.objs.size, ito) ∈ own := hall _ (.head _) hI₀ _ hito
    have hv : vs[i]? = some v := by simpa using hP
    refine wpAny_mono (turn i v m₁ led₁ hh' tk' s.heap.objs.size ito hv hJ (fun p hp e => hoff p hp (by rw [e]; exact .head _)) F₁ (fun p hp => ?_)) (fun f s₂ p => ?_) fun _ _ e => e
    · rcases List.mem_cons.mp hp with rfl | hp
      · exact N₁ _ (List.mem_append_left _ hI)
      · exact N₁ _ (List.mem_append_right _ hp)
    · have fin : TEnd h₀ env.locals s.heap.objs.size ito (J (i + 1)) { s with heap := hh', toks := tk' } s₂ → LoopStepU h₀ env.locals [s.heap.objs.size] own (J (i + 1)) { s with heap := hh', toks := tk' } .next s₂ := by
        rintro ⟨h', tk, m', led', rfl, F', N', ho, hj'⟩
        refine ⟨rfl, h', tk, m', led', rfl, F', fun p hp => ?_, fun p hp hb => ho p hp (List.mem_singleton.mp hb), hj'⟩
        rcases List.mem_append.mp hp with hp | hp
        · have hg := howng p hp
          rcases List.mem_cons.mp (hown p hp) with e | e
          · obtain ⟨a, ob⟩ := p
            dsimp only at e hg
            subst e
            have : ob = ito := Option.some.inj (hg.symm.trans hito)
            subst this
            exact N' _ (.head _)
          · obtain ⟨a, ob⟩ := p
            have e := List.mem_singleton.mp e
            dsimp only at e hg
            subst e
            have : ob = listOf vs.toArray n := Option.some.inj (hg.symm.trans (N₁ _ (List.mem_append_right _ hlm)).1)
            subst this
            exact N' _ (.tail _ (hkeep _ _ _ hj'))
        · exact N' _ (.tail _ hp)
      cases f with
      | ret v => exact .ret p
      | brk => exact .brk p
      | next => exact .next (fin p)
      | cont => exact .cont (fin p)
  · intro h' tk m' led' F' N' _ hJ
    exact done m' led' h' tk hJ F' N'
theorem loop_one {I : Addr} {n : Nat} {P : Nat → Value → Prop} {St : Nat → Heap → Prop} {m₀ : Str → Option Value} {led₀ : List (Addr × Obj)} (J : Nat → (Str → Option Value) → List (Addr × Obj) → Prop)
    (W : Walks prog w A I [I] [I] n P St) (hI₀ : h₀.get? I = none) (hIL : env.locals ≠ I) (hst : St 0 s.heap) (live : ∀ i h, St i h → ∃ o, h.get? I = some o)
    (F : Fr h₀ env.locals s.heap m₀) (N : News h₀ env.locals s.heap led₀) (ho : ∀ p ∈ led₀, p.1 ≠ I) (hj : J 0 m₀ led₀)
    (turn : ∀ i v m₁ led₁ h tk ito, i < n → P i v → J i m₁ led₁ → (∀ p ∈ led₁, p.1 ≠ I) → Fr h₀ env.locals h (fun y => if y = x then some v else m₁ y) → News h₀ env.locals h ((I, ito) :: led₁) →
      wpAny (model prog w) A (execs body env) (TPost h₀ env.locals I ito (J (i + 1)) { s with heap := h, toks := tk } Q) E { s with heap := h, toks := tk })
    (done : ∀ m₁ led₁ h tk, J n m₁ led₁ → Fr h₀ env.locals h m₁ → News h₀ env.locals h led₁ → Q .next { s with heap := h, toks := tk }) :
    LoopAtV prog w A h₀ env x body Q E (.ref I) s := by
  refine ⟨_, _, _, n, _, _, m₀, led₀, J, rfl, W, ?_, ?_, ?_, hst, F, N, hj, ?_, ?_⟩
  · intro hm
    exact hIL (List.mem_singleton.mp hm)
  · intro b hb
    rw [List.mem_singleton.mp hb]; exact hI₀
  · intro p hp hI
    exact ho p hp (List.mem_singleton.mp hI)
  · intro i v m₁ led₁ s₁ own hJ9 hin hP hJ hoff hown howng hall hst F₁ N₁
    obtain ⟨hh', tk', rfl⟩ := hJ9
    obtain ⟨ito, hito⟩ := live _ _ hst
    have hI : (I, ito) ∈ own := hall _ (.head _) hI₀ _ hito
    refine wpAny_mono (turn i v m₁ led₁ hh' tk' ito hin hP hJ (fun p hp e => hoff p hp (by rw [e]; exact .head _)) F₁ (fun p hp => ?_)) (fun f s₂ p => ?_) fun _ _ e => e
    · rcases List.mem_cons.mp hp with rfl | hp
      · exact N₁ _ (List.mem_append_left _ hI)
      · exact N₁ _ (List.mem_append_right _ hp)
    · have fin : TEnd h₀ env.locals I ito (J (i + 1)) { s with heap := hh', toks := tk' } s₂ → LoopStepU h₀ env.locals [I] own (J (i + 1)) { s with heap := hh', toks := tk' } .next s₂ := by
        rintro ⟨h', tk, m', led', rfl, F', N', ho, hj'⟩
        refine ⟨rfl, h', tk, m', led', rfl, F', fun p hp => ?_, fun p hp hb => ho p hp (List.mem_singleton.mp hb), hj'⟩
        rcases List.mem_append.mp hp with hp | hp
        · have hg := howng p hp
          obtain ⟨a, ob⟩ := p
          have e := List.mem_singleton.mp (hown _ hp)
          dsimp only at e hg
          subst e
          have : ob = ito := Option.some.inj (hg.symm.trans hito)
          subst this
          exact N' _ (.head _)
        · exact N' _ (.tail _ hp)
      cases f with
      | ret v => exact .ret p
      | brk => exact .brk p
      | next => exact .next (fin p)
      | cont => exact .cont (fin p)
  · intro h' tk m' led' F' N' _ hJ
    exact done m' led' h' tk hJ F' N'
theorem iter_by {b : Array UInt8} {t : Tok} {m₀ : Str → Option Value} {led₀ : List (Addr × Obj)} (J : Nat → (Str → Option Value) → List (Addr × Obj) → Prop)
    (hh : A.handled = none) (F : Fr h₀ env.locals s.heap m₀) (N : News h₀ env.locals s.heap led₀) (hj : J 0 m₀ led₀)
    (turn : ∀ i (c : UInt8) u m₁ led₁ h tk I ito, b[i]? = some c → J i m₁ led₁ → (∀ p ∈ led₁, p.1 ≠ I) → Fr h₀ env.locals h (fun y => if y = x then some (.int (c.toNat : Int) u) else m₁ y) → News h₀ env.locals h ((I, ito) :: led₁) →
      wpAny (model prog w) A (execs body env) (TPost h₀ env.locals I ito (J (i + 1)) { s with heap := h, toks := tk } Q) E { s with heap := h, toks := tk })
    (done : ∀ m₁ led₁ h tk, J b.size m₁ led₁ → Fr h₀ env.locals h m₁ → News h₀ env.locals h led₁ → Q .next { s with heap := h, toks := tk }) :
    wpAny (model prog w) A (pyIter (.bytes b t)) (fun it s₂ => LoopAtV prog w A h₀ env x body Q E it s₂) E s := by
  refine KBw.pyIter_bytes ?_
  have hI₀ : h₀.get? s.heap.objs.size = none := by
    cases q : h₀.get? s.heap.objs.size with
    | none => rfl
    | some o => exact absurd (Heap.lt_size (F.keep _ _ q)) (Nat.lt_irrefl _)
  have hz : ∀ p ∈ led₀, p.1 ≠ s.heap.objs.size := fun p hp => Nat.ne_of_lt (Heap.lt_size (N p hp).1)
  refine loop_one (s := { s with heap := s.heap.push _ }) J (KBw.walks hh s.heap.objs.size b t) hI₀ (Nat.ne_of_lt F.ns.lt) ⟨_, Heap.get?_push_size _ rfl, rfl, rfl⟩ (fun i h hst => ?_) (F.push _) (fun p hp => ⟨Heap.get?_push_of_some _ (N p hp).1, (N p hp).2⟩) hz hj ?_ done
  · obtain ⟨o, ho, _⟩ := hst
    exact ⟨o, ho⟩
  · intro i v m₁ led₁ h tk ito _ hJ9 hJ ho F₁ N₁
    obtain ⟨c, u, hc, rfl⟩ := hJ9
    exact turn i c u m₁ led₁ h tk _ ito hc hJ ho F₁ N₁
noncomputable def Held (P : Prop) : Prop := P
theorem Held.mk {P : Prop} (h : Held P) : P := h
theorem Held.out {P : Prop} (h : P) : Held P := h
end
end XTools
section XRules
set_option maxRecDepth 100000

example : True := by
  k_with_none
  trivial

noncomputable def insI (f : Int → Int) (ns : List Int) (x : Int) : List Int := ns.take (bis f ns (f x) ns.length 0 ns.length) ++ x :: ns.drop (bis f ns (f x) ns.length 0 ns.length)
theorem insI_length (f : Int → Int) (ns : List Int) (x : Int) : (insI f ns x).length = ns.length + 1 := by
  unfold insI
  rw [List.length_append, List.length_cons, List.length_take, List.length_drop]; omega
theorem insI_mem (f : Int → Int) (ns : List Int) (x : Int) : x ∈ insI f ns x := by
  unfold insI
  exact List.mem_append.mpr (.inr (.head _))
section
variable {prog : Program} {w : World} {p : Program} {loose : List Str} {mean : ExcName → Option Value} {mg mb : Str → Option Value}
theorem insS {dp un : Nat} {gd : Option (List Code)} {cn : Str} {cs : Scope} {a : Addr} {ccd : Value} {cl : List (Str × Addr)} {outer : List Env} {A₀ : Around} {base h₀ : Heap} {L : Addr} {m : Str → Option Value} {s : Shared} {Q E : Value → Shared → Prop} {news : List (Addr × Obj)} {l : Addr} {ws : List Value} {n : Nat} {ns : List Int} {x : Int} {tx : Tok}
    (B : Below A₀ base outer h₀) (F : Fr h₀ L s.heap m) (X : (Mine.hd.heap_39 w.params).In h₀) (N : News h₀ L s.heap news) (T : Top p loose mean mg mb h₀) (hk : cs.kind = .function)
    (hm : (l, listOf ws.toArray n) ∈ news) (hi : IntsAre ws ns) (hlen : ns.length < 2 ^ 20) (hd : dp + 8 < recursionLimit) (hu : un + 60 < cLine)
    (hret : ∀ (h' : Heap) (tk' : Nat) (led' : List (Addr × Obj)) (ws' : List Value), Fr h₀ L h' m → News h₀ L h' led' → (l, listOf ws'.toArray (n + 1)) ∈ led' → IntsAre ws' (insI id ns x) → (∀ p ∈ news, p.1 ≠ l → p ∈ led') → (∀ p ∈ led', ∃ q ∈ news, q.1 = p.1) → Q .none { s with heap := h', toks := tk' }) :
    wpAny (model prog w) (ktrTop dp un gd cn cs L a ccd cl outer) (call (.ref 47) [.ref l, .int x tx]) Q E s :=
  insC B F X (news_turnTo N hm) T hk turnTo_new hi hlen hd hu upd_turnTo fun h' tk' F' N' => hret h' tk' _ _ F' N' turnTo_new (klins_ints hi _ (bis_le id ns x _ _ _ (Nat.zero_le _) (Nat.le_refl _)) x tx) (fun p hp hn => turnTo_old hp hn) (fun p hp => turnTo_addr hm hp)
theorem insSK {dp un : Nat} {gd : Option (List Code)} {cn : Str} {cs : Scope} {a : Addr} {ccd : Value} {cl : List (Str × Addr)} {outer : List Env} {A₀ : Around} {base h₀ : Heap} {L : Addr} {m : Str → Option Value} {s : Shared} {Q E : Value → Shared → Prop} {news : List (Addr × Obj)} {l f : Addr} {ws : List Value} {n : Nat} {ns : List Int} {x : Int} {tx : Tok} {g : Int → Int} {foc : Value} {fod : Option Addr} {fd : FuncData} {fsl : Array (Option Value)}
    (B : Below A₀ base outer h₀) (F : Fr h₀ L s.heap m) (X : (Mine.hd.heap_39 w.params).In h₀) (N : News h₀ L s.heap news) (T : Top p loose mean mg mb h₀) (hk : cs.kind = .function) (C : ∀ led, (∀ p ∈ news, p.1 ≠ l → p ∈ led) → KeyOk prog w p loose mean mg mb f g led) (hfn : (f, (⟨foc, fod, .func fd, fsl⟩ : Obj)) ∈ news) (hfl : f ≠ l)
    (hm : (l, listOf ws.toArray n) ∈ news) (hi : IntsAre ws ns) (hlen : ns.length < 2 ^ 20) (hd : dp + 8 < recursionLimit) (hu : un + 60 < cLine)
    (hret : ∀ (h' : Heap) (tk' : Nat) (led' : List (Addr × Obj)) (ws' : List Value), Fr h₀ L h' m → News h₀ L h' led' → (l, listOf ws'.toArray (n + 1)) ∈ led' → IntsAre ws' (insI g ns x) → (∀ p ∈ news, p.1 ≠ l → p ∈ led') → (∀ p ∈ led', ∃ q ∈ news, q.1 = p.1) → Q .none { s with heap := h', toks := tk' }) :
    wpAny (model prog w) (ktrTop dp un gd cn cs L a ccd cl outer) (call (.ref 47) [.ref l, .int x tx] [(Str.ofString "key", .ref f)]) Q E s :=
  insK B F X (news_turnTo N hm) T hk (C _ fun p hp hn => turnTo_old hp hn) (turnTo_old hfn hfl) turnTo_new hi hlen hd hu upd_turnTo fun h' tk' F' N' => hret h' tk' _ _ F' N' turnTo_new (klins_ints hi _ (bis_le g ns (g x) _ _ _ (Nat.zero_le _) (Nat.le_refl _)) x tx) (fun p hp hn => turnTo_old hp hn) (fun p hp => turnTo_addr hm hp)
end
section
variable {prog : Program} {w : World} {A : Around} {E : Value → Shared → Prop} {s : Shared} {h₀ : Heap} {L D : Addr} {m : Str → Option Value} {news : List (Addr × Obj)} {n : Nat} {ws : List Value} {ns : List Int} {Q : Value → Shared → Prop}
theorem seq_idx {i k : Nat} (h : i < k) : seqIndex? (i : Int) k = some i := by
  unfold seqIndex?
  have h1 : ¬ ((i : Int) < 0) := by omega
  have h2 : (0 : Int) ≤ (i : Int) := by omega
  have h3 : (i : Int) < (k : Int) := by omega
  simp only [if_neg h1, decide_eq_true h2, decide_eq_true h3, Bool.and_self, if_true, Int.toNat_natCast]
theorem kfInts_of (hi : IntsAre ws ns) : kf_ints ws = true := by
  induction hi with
  | nil => rfl
  | cons k t r ih => exact ih
theorem kfAt_of (hi : IntsAre ws ns) {x : Int} (hx : x ∈ ns) : kf_at x ws = some (ns.idxOf x) := by
  induction hi with
  | nil => cases hx
  | @cons k t vs r _ ih =>
    unfold kf_at
    by_cases h : k = x
    · subst h
      have e : isInt k (.int k t) = true := by simp [isInt]
      rw [e]
      simp
    · have e : isInt x (.int k t) = false := by simp [isInt, h]
      rw [e]
      have hx' : x ∈ r := by
        rcases List.mem_cons.mp hx with q | q
        · exact absurd q.symm h
        · exact q
      rw [ih hx']
      show some (r.idxOf x + 1) = some ((k :: r).idxOf x)
      rw [List.idxOf_cons, beq_eq_false_iff_ne.mpr h]
      rfl
theorem index_led {x : Int} {t : Tok} (N : News h₀ L s.heap news) (hm : (D, listOf ws.toArray n) ∈ news) (hi : IntsAre ws ns) (hx : x ∈ ns) (hz : ns.length < 2 ^ 20)
    (h : Q (.int (ns.idxOf x : Nat) s.toks) { s with toks := s.toks + 1 }) : wpAny (model prog w) A (call (.builtin "list.index") [.ref D, .int x t]) Q E s :=
  kf_index (its := ws.toArray) N hm (kfInts_of hi) (kfAt_of hi hx) rfl (by rw [sizeLine_eq]; have := hi.length; simp; omega) h
theorem klcut_of : ∀ (ws : List Value) (i : Nat) (y : Value), ws[i]? = some y → kl_cut ws i = some (ws.take i, y, ws.drop (i + 1))
  | [], i, y, h => by simp at h
  | v :: r, 0, y, h => by simp at h; subst h; rfl
  | v :: r, i + 1, y, h => by
    unfold kl_cut
    rw [klcut_of r i y (by simpa using h)]
    rfl
theorem IntsAre.take {i : Nat} (hi : IntsAre ws ns) : IntsAre (ws.take i) (ns.take i) := by
  induction hi generalizing i with
  | nil => cases i <;> exact .nil
  | cons k t r ih =>
    cases i with
    | zero => exact .nil
    | succ i => exact .cons k t ih
theorem IntsAre.drop {i : Nat} (hi : IntsAre ws ns) : IntsAre (ws.drop i) (ns.drop i) := by
  induction hi generalizing i with
  | nil => cases i <;> exact .nil
  | cons k t r ih =>
    cases i with
    | zero => exact .cons k t r
    | succ i => exact ih
theorem pop_led {i : Nat} {t : Tok} (F : Fr h₀ L s.heap m) (N : News h₀ L s.heap news) (hm : (D, listOf ws.toArray n) ∈ news) (hi : IntsAre ws ns) (hx : i < ns.length) (hz : ns.length < 2 ^ 20)
    (h : ∀ h' u led' ws', Fr h₀ L h' m → News h₀ L h' led' → (D, listOf ws'.toArray (n + 1)) ∈ led' → IntsAre ws' (ns.eraseIdx i) → (∀ p ∈ news, p.1 ≠ D → p ∈ led') → (∀ p ∈ led', ∃ q ∈ news, q.1 = p.1) → Q (.int (ns.getD i 0) u) { s with heap := h' }) :
    wpAny (model prog w) A (call (.builtin "list.pop") [.ref D, .int (i : Nat) t]) Q E s := by
  have hl := hi.length
  obtain ⟨u, hy⟩ := hi.get i ns[i] (by simp [hx])
  refine kl_popAt (its := ws.toArray) (k := i) (p := ws.take i) (q := ws.drop (i + 1)) (y := .int ns[i] u) F (news_turnTo N hm) ?_ ?_ (klcut_of ws i _ hy) upd_turnTo (by rw [sizeLine_eq]; simp; omega) fun h' F' N' => ?_
  · exact fits_idx (by omega)
  · exact seq_idx (by rw [List.size_toArray, hl]; exact hx)
  · have e : ns.getD i 0 = ns[i] := by simp [hx]
    rw [← e]
    refine h h' u _ _ F' N' turnTo_new ?_ (fun p hp hn => turnTo_old hp hn) (fun p hp => turnTo_addr hm hp)
    rw [List.eraseIdx_eq_take_drop_succ]
    exact IntsAre.append (IntsAre.take hi) (IntsAre.drop hi)
theorem natSucc (k : Nat) : (k : Int) + 1 = ((k + 1 : Nat) : Int) := rfl
theorem pop_ledI {i : Nat} {k : Int} {t : Tok} (e : k = (i : Int)) (F : Fr h₀ L s.heap m) (N : News h₀ L s.heap news) (hm : (D, listOf ws.toArray n) ∈ news) (hi : IntsAre ws ns) (hx : i < ns.length) (hz : ns.length < 2 ^ 20)
    (h : ∀ h' u led' ws', Fr h₀ L h' m → News h₀ L h' led' → (D, listOf ws'.toArray (n + 1)) ∈ led' → IntsAre ws' (ns.eraseIdx i) → (∀ p ∈ news, p.1 ≠ D → p ∈ led') → (∀ p ∈ led', ∃ q ∈ news, q.1 = p.1) → Q (.int (ns.getD i 0) u) { s with heap := h' }) :
    wpAny (model prog w) A (call (.builtin "list.pop") [.ref D, .int k t]) Q E s := by
  subst e
  exact pop_led F N hm hi hx hz h
theorem append_led {x : Value} {its : Array Value} (F : Fr h₀ L s.heap m) (N : News h₀ L s.heap news) (hm : (D, listOf its n) ∈ news) (hz : its.size ≤ sizeLine)
    (h : ∀ h' led', Fr h₀ L h' m → News h₀ L h' led' → (D, listOf (its.push x) (n + 1)) ∈ led' → (∀ p ∈ news, p.1 ≠ D → p ∈ led') → (∀ p ∈ led', ∃ q ∈ news, q.1 = p.1) → Q .none { s with heap := h' }) :
    wpAny (model prog w) A (call (.builtin "list.append") [.ref D, x]) Q E s :=
  append_K F (news_turnTo N hm) upd_turnTo (fun h' F' N' => h h' _ F' N' turnTo_new (fun p hp hn => turnTo_old hp hn) (fun p hp => turnTo_addr hm hp)) hz
end
end XRules
section XClean
set_option maxRecDepth 100000

example : True := by
  k_with_none
  trivial

open Sem (wp)
noncomputable def holdsB (v : Value) (c : Code × Pos) : Bool := match c with
  | (.builtin "bytearray.__contains__" ⟨v' :: _, _⟩, _) | (.builtin "bytearray.__mod__" ⟨v' :: _, _⟩, _)
  | (.builtin "bytearray.__rmod__" ⟨_ :: v' :: _, _⟩, _) | (.builtin "_struct.pack_into.held" ⟨v' :: _, _⟩, _) => Builtin.Bytes.sameRef v' v
  | (.builtin "bytearray.find.held" ⟨_ :: _ :: held, _⟩, _) => held.any (Builtin.Bytes.sameRef v)
  | (.builtin id ⟨v' :: _, _⟩, _) => Builtin.Bytes.sameRef v' v && Builtin.Bytes.decodersThatHold.contains id
  | _ => false
noncomputable def Clean (c : Code) : Prop := ∀ v p, holdsB v (c, p) = false
theorem clean_call {f : Value} {a : Args} : Clean (.call f a) := fun _ _ => rfl
theorem clean_func {b : List Stmt} {e : Env} : Clean (.func b e) := fun _ _ => rfl
noncomputable def CleanB (Γ : Ctx) : Prop := ∀ c ∈ Γ.below, Clean c.1
noncomputable def wpC {α : Type} (M : Model) (A : Around) (t : Sem α) (Q : α → Shared → Prop) (E : Value → Shared → Prop) (s : Shared) : Prop :=
  ∀ Γ p, Γ.In A → Clean Γ.code → CleanB Γ → wp M Γ t (fun a _ s' => Q a s') (fun e _ s' => E e s') p s
noncomputable def codeC (M : Model) (A : Around) (c : Code) (R : Result → Shared → Prop) (s : Shared) : Prop :=
  ∀ Γ p, Γ.code = c → Γ.Below A → CleanB Γ → wpCode M Γ R p s
section
variable {α β : Type} {M : Model} {A : Around} {E : Value → Shared → Prop} {s : Shared}
theorem wpC_of {t : Sem α} {Q : α → Shared → Prop} (h : wpAny M A t Q E s) : wpC M A t Q E s := fun Γ p hΓ _ _ => h Γ p hΓ
theorem wpC_mono {t : Sem α} {Q Q' : α → Shared → Prop} {E' : Value → Shared → Prop} (h : wpC M A t Q E s) (hQ : ∀ a s, Q a s → Q' a s) (hE : ∀ e s, E e s → E' e s) : wpC M A t Q' E' s :=
  fun Γ p hΓ hd hB => Sem.wp_mono M Γ t (fun a _ s => hQ a s) (fun e _ s => hE e s) p s (h Γ p hΓ hd hB)
theorem wpC_bind {m : Sem α} {f : α → Sem β} {Q : β → Shared → Prop} (h : wpC M A m (fun a s' => wpC M A (f a) Q E s') E s) : wpC M A (m >>= f) Q E s := fun Γ p hΓ hd hB => by
  rw [Sem.wp_bind']
  exact Sem.wp_mono M Γ m (fun a p' s' h' => h' Γ p' hΓ hd hB) (fun _ _ _ h' => h') p s (h Γ p hΓ hd hB)
theorem wpC_step {m : Sem α} {f : α → Sem β} {Q : β → Shared → Prop} (h : wpAny M A m (fun a s' => wpC M A (f a) Q E s') E s) : wpC M A (m >>= f) Q E s := wpC_bind (wpC_of h)
theorem wpC_pure {a : α} {Q : α → Shared → Prop} (h : Q a s) : wpC M A (pure a) Q E s := fun _ _ _ _ _ => h
theorem wpC_no {c : Prop} [i : Decidable c] {t e : Sem α} {Q : α → Shared → Prop} (hc : ¬ c) (h : wpC M A e Q E s) : wpC M A (if c then t else e) Q E s := by rw [if_neg hc]; exact h
theorem wpC_yes {c : Prop} [i : Decidable c] {t e : Sem α} {Q : α → Shared → Prop} (hc : c) (h : wpC M A t Q E s) : wpC M A (if c then t else e) Q E s := by rw [if_pos hc]; exact h
theorem wpC_onRaise {m : Sem α} {k : Value → Sem Unit} {Q : α → Shared → Prop}
    (h : wpC M A m Q (fun e s' => wpAny M A (k e) (fun _ s'' => E e s'') E s') s) : wpC M A (m.onRaise k) Q E s := fun Γ p hΓ hd hB => by
  rw [Sem.wp_onRaise]
  exact Sem.wp_mono M Γ m (fun _ _ _ h' => h') (fun e p' s' h' => h' Γ p' hΓ) p s (h Γ p hΓ hd hB)
theorem wpC_holding {vs : List Value} {m : Sem α} {Q : α → Shared → Prop} (h : wpC M A m Q E s) : wpC M A (holding vs m) Q E s :=
  fun Γ p hΓ hd hB => by rw [Sem.wp_holding]; exact h Γ p hΓ hd hB
theorem wpC_attempt {m : Sem α} {Q : Except Value α → Shared → Prop} (h : wpC M A m (fun a => Q (.ok a)) (fun e => Q (.error e)) s) : wpC M A m.attempt Q E s :=
  fun Γ p hΓ hd hB => by rw [Sem.wp_attempt]; exact h Γ p hΓ hd hB
theorem cleanB_enter {Γ : Ctx} {c : Code} {hd : Option Value} {p : Pos} (h1 : Clean Γ.code) (h2 : CleanB Γ) : CleanB (Γ.enter c hd p) := by
  intro x hx
  rcases List.mem_cons.mp hx with rfl | hx
  · exact h1
  · exact h2 x hx
theorem codeC_of {c : Code} {R : Result → Shared → Prop} (h : codeAny M A c R s) : codeC M A c R s := fun Γ p hc hΓ _ => h Γ p hc hΓ
theorem wpC_runValue {c : Code} {Q : Value → Shared → Prop} (hc : codeC M A c (fun r s' => match r with | .ok (.ret v) => Q v s' | .ok _ => False | .error e => E e s') s) :
    wpC M A (runValue c) Q E s := fun Γ p hΓ hd hB => by rw [Sem.wp_runValue]; exact hc _ p rfl (hΓ.enter c none p (by intro x; cases x)) (cleanB_enter hd hB)
theorem wpC_call {f : Value} {pos : List Value} {kw : List (Str × Value)} {Q : Value → Shared → Prop} (hc : codeC M A (.call f ⟨pos, kw⟩) (fun r s' => match r with | .ok (.ret v) => Q v s' | .ok _ => False | .error e => E e s') s) :
    wpC M A (call f pos kw) Q E s := wpC_runValue hc
theorem codeC_of_tree {c : Code} {R : Result → Shared → Prop} (hd : Clean c)
    (h : wpC M (A.under c) (M.den c) (fun fin s' => match fin with | .done f => R (.ok f) s' | .again c' => c'.quiet = true ∧ codeC M A c' R s') (fun e s' => R (.error e) s') s) : codeC M A c R s := fun Γ p hc hΓ hB => by
  rw [wpCode_iff_wp, hc]
  refine Sem.wp_mono M Γ _ (fun fin p' s' h' => ?_) (fun _ _ _ h' => h') p s (h Γ p (hc ▸ hΓ.in) (hc ▸ hd) hB)
  cases fin with
  | done f => exact h'
  | again c' => exact ⟨h'.1, h'.2 (Γ.goto c') p' rfl (hΓ.goto c') hB⟩
end
section
variable {prog : Program} {w : World} {A : Around} {s : Shared} {R : Result → Shared → Prop}
theorem codeC_builtin {id : String} {args : Args} {b : Builtin} (hd : Clean (.builtin id args)) (hb : entryFor table id = some b)
    (h : wpC (model prog w) (A.under (.builtin id args)) (b args) (fun fin s' => match fin with | .done f => R (.ok f) s' | .again c' => c'.quiet = true ∧ codeC (model prog w) A c' R s') (fun e s' => R (.error e) s') s) :
    codeC (model prog w) A (.builtin id args) R s := by
  refine codeC_of_tree hd ?_
  show wpC _ _ (match entryFor table id with | some b => b args | none => unsupported ((withoutEnding? id "#data").getD id)) _ _ s
  rw [hb]; exact h
theorem codeC_func {body : List Stmt} {env : Env}
    (h : wpC (model prog w) (A.deeper env) (execs body env) (fun f s' => R (.ok (.ret (match f with | .ret v => v | _ => .none))) s')
      (fun e s' => wpAny (model prog w) (A.deeper env) (leaving env e) (fun _ s'' => R (.error e) s'') (fun e' s'' => R (.error e') s'') s') s) :
    codeC (model prog w) A (.func body env) R s := by
  refine codeC_of_tree clean_func ?_
  show wpC _ (A.deeper env) (do point; match ← (execs body env).onRaise (leaving env) with | .ret v => ret v | _ => ret .none) _ _ s
  refine wpC_step (wpAny_point (wpC_bind (wpC_onRaise (wpC_mono h (fun f s' h' => ?_) fun _ _ h' => h'))))
  cases f <;> exact wpC_pure h'
theorem codeC_call_function {a : Addr} {args : Args} {o : Obj} {fd : FuncData} {body : List Stmt} (hroom : A.depth < recursionLimit)
    (ho : s.heap.get? a = some o) (hd' : o.data = .func fd) (hco : fd.scope.isCoroutine = false) (hgen : fd.scope.isGenerator = false) (hbody : fd.body = .stmts body) (hcd : s.heap.CodeRec fd.code fd.qualname)
    (h : wpAny (model prog w) A.in1 (bindArgs fd args) (fun binds s₁ =>
      wpAny (model prog w) A.in1 (newFunctionEnv fd.scope fd.globals fd.closure binds (fd.qualname ++ ".<locals>.") (some a) fd.code none fd.builtins)
        (fun env s₂ => s₂.heap.NoLimit ∧ codeC (model prog w) A (.func body env) R s₂) (fun e s' => R (.error e) s') s₁) (fun e s' => R (.error e) s') s) :
    codeC (model prog w) A (.call (.ref a) args) R s := by
  refine codeC_of_tree clean_call ?_
  show wpC _ A.in1 (callAny (.ref a) args) _ _ s
  simp only [callAny]
  refine wpC_step (wpAny_load ho ?_)
  obtain ⟨c, oc, vs, tq, hc, hoc, hdc, hq⟩ := hcd
  simp only [hd', callFunction, hco, hgen, hbody, hc]
  rw [hc] at h
  refine wpC_step (m := field (.ref c) 1) (wpAny_field hoc hdc hq (wpC_step (wpAny_pure ?_)))
  exact wpC_step (wpAny_mono h (fun binds s₁ h₁ => wpC_step (wpAny_mono h₁ (fun env s₂ h₂ => wpC_step (wpAny_enterFrame h₂.1 hroom
    (wpC_pure (And.intro rfl h₂.2)))) fun _ _ h' => h')) fun _ _ h' => h')
theorem codeC_mono {c : Code} {R R' : Result → Shared → Prop} {M : Model} (h : codeC M A c R s) (hR : ∀ r s, R r s → R' r s) : codeC M A c R' s := fun Γ p hc hΓ hB => wpCode_mono hR (h Γ p hc hΓ hB)
theorem codeC_call_builtin {id : String} {args : Args} {b : Builtin} (hd : Clean (.builtin id args)) (hq : plainId id = true) (hb : entryFor table id = some b)
    (h : wpAny (model prog w) A.in1 (checkBuiltinCall id args) (fun _ s₁ => wpC (model prog w) A.in1 (b args)
      (fun fin s' => match fin with | .done f => R (.ok f) s' | .again c' => c'.quiet = true ∧ codeC (model prog w) A c' R s') (fun e s' => R (.error e) s') s₁)
      (fun e s' => R (.error e) s') s) : codeC (model prog w) A (.call (.builtin id) args) R s := by
  refine codeC_of_tree clean_call ?_
  show wpC _ A.in1 (do checkBuiltinCall id args; again (.builtin id args)) _ _ s
  refine wpC_step (wpAny_mono h (fun _ s₁ h₁ => wpC_pure (And.intro (plainId_quiet hq args) (codeC_builtin hd hb ?_))) fun _ _ h' => h')
  rw [Around.under_plainId hq args]
  exact h₁
theorem wpC_exported {E : Value → Shared → Prop} {v : Value} {Q : Bool → Shared → Prop} (h : Q false s) : wpC (model prog w) A (Builtin.Bytes.exported v) Q E s := fun Γ p hΓ hd hB => by
  unfold Builtin.Bytes.exported
  show wp _ Γ (Sem.bind stack _) _ _ p s
  unfold stack
  rw [Sem.wp_bind, Sem.wp_stack]
  show Q (List.any _ (holdsB v)) s
  have h2 : List.any ((Γ.code, p) :: Γ.below) (holdsB v) = false := List.any_eq_false.mpr fun x hx => by
    refine Bool.eq_false_iff.mp ?_
    rcases List.mem_cons.mp hx with rfl | hx
    · exact hd v _
    · exact hB x hx v x.2
  exact (congrArg (fun b => Q b s) h2).mpr h
end
end XClean
section XClean2
set_option maxRecDepth 100000

example : True := by
  k_with_none
  trivial

open Sem (wp)
section
variable {M : Model} {A : Around} {E : Value → Shared → Prop} {s : Shared} {env : Env}
theorem wpC_execs_cons {st : Stmt} {rest : List Stmt} {Q : Flow → Shared → Prop}
    (h : wpC M A (exec st env) (fun f s' => match f with | .next => wpC M A (execs rest env) Q E s' | f => Q f s') E s) : wpC M A (execs (st :: rest) env) Q E s := fun Γ p hΓ hd hB => by
  rw [execs_cons, Sem.wp_bind']
  refine Sem.wp_mono M Γ _ (fun f p' s' h' => ?_) (fun _ _ _ h' => h') _ _ (h Γ p hΓ hd hB)
  cases f <;> first | exact h' Γ p' hΓ hd hB | exact h'
theorem wpC_Assign_Name {x : Str} {pos' : Pos} {value : Expr} {pos : Pos} {Q : Flow → Shared → Prop}
    (h : wpC M A (eval value env) (fun v s₁ => wpAny M A (storeName env x v) (fun _ => Q .next) E s₁) E s)
    (hs : swapsWith value (some (.Name x pos')) pos.line env = pure false := by rfl) :
    wpC M A (exec (.Assign [.Name x pos'] value pos) env) Q E s := fun Γ p hΓ hd hB => by
  simp only [exec_Assign_Name env x pos' value pos hs, Sem.wp_bind', Sem.wp_cmd_standAt, Sem.wp_bindName, Sem.wp_pure']
  exact Sem.wp_mono M Γ _ (fun v _ s₁ h₁ => h₁ Γ _ hΓ) (fun _ _ _ h' => h') _ _ (h Γ _ hΓ hd hB)
theorem wpC_Call_Name {x : Str} {p pos : Pos} {args : List Expr} {trees : List (Bool × Sem Value)} {Q : Value → Shared → Prop} (ht : backTo pos (starEach args env) = trees)
    (h : wpAny M A (eval (.Name x p) env) (fun f s₁ => wpC M A (callWith pos f [] trees []) Q E s₁) E s) :
    wpC M A (eval (.Call (.Name x p) args [] pos) env) Q E s := by
  subst ht
  exact wpC_step h
theorem wpC_keep {α : Type} {vs : List Value} {m : Sem α} {Q : α → Shared → Prop} (h : wpC M A m Q E s) : wpC M A (m.keep vs) Q E s := fun Γ p hΓ hd hB => by rw [Sem.wp_keep]; exact h Γ p hΓ hd hB
theorem callWithC_type {pos : Pos} {T : String} {first : List Value} {args : List (Bool × Sem Value)} {Q : Value → Shared → Prop} (hplain : args.any (·.1) = false)
    (h : wpAny M A (evalArgs (.type T) true args []) (fun a s₁ => wpC M A (call (.type T) (first ++ a.pos) a.kw) Q E s₁) E s) :
    wpC M A (callWith pos (.type T) first args []) Q E s := by
  unfold callWith
  refine wpC_step (wpAny_holding (wpAny_mono h (fun a s₁ h₁ => wpC_step (wpAny_standAt ?_)) fun _ _ x => x))
  simp only [hplain, List.any_nil, Bool.or_false]
  refine wpC_step (wpAny_pure ?_)
  exact wpC_bind (wpC_mono h₁ (fun r s₂ hr => wpC_step (wpAny_holding (wpAny_point (wpC_pure hr)))) fun _ _ x => x)
theorem callWithC_function {pos : Pos} {a : Addr} {o : Obj} {fd : FuncData} {first : List Value} {args : List (Bool × Sem Value)} {Q : Value → Shared → Prop}
    (h : wpAny M A (evalArgs (.ref a) true args []) (fun x s₁ => (s₁.heap.get? a = some o ∧ o.data = .func fd) ∧ wpC M A (call (.ref a) (first ++ x.pos) x.kw) Q E s₁) E s) :
    wpC M A (callWith pos (.ref a) first args []) Q E s := by
  unfold callWith
  refine wpC_step (wpAny_holding (wpAny_mono h (fun x s₁ h₁ => wpC_step (wpAny_standAt ?_)) fun _ _ x => x))
  have tail : ∀ {t : Sem Value}, wpC M A t Q E s₁ → wpC M A (t >>= fun r => holding [r] point >>= fun _ => pure r) Q E s₁ :=
    fun ht => wpC_bind (wpC_mono ht (fun r s₂ hr => wpC_step (wpAny_holding (wpAny_point (wpC_pure hr)))) fun _ _ x => x)
  cases hs : args.any (·.1) <;> simp only [List.any_nil, Bool.or_false] <;>
    refine wpC_step (m := keeperOf (.ref a)) ?_ <;> unfold keeperOf <;>
    refine wpAny_bind (wpAny_load h₁.1.1 ?_) <;> rw [h₁.1.2] <;> refine wpAny_pure ?_
  · show wpC M A (if args.length + 2 * ([] : List (Option Str × Sem Value)).length > 30 then call (.ref a) (first ++ x.pos) x.kw >>= _ else callMarked plainCall (.ref a) (first ++ x.pos) x.kw >>= _) Q E s₁
    split
    · exact tail h₁.2
    · exact tail (wpC_keep h₁.2)
  · exact tail (wpC_keep h₁.2)
theorem callWithC_type1 {pos : Pos} {T : String} {e : Expr} {rest : List Expr} {Q : Value → Shared → Prop}
    (h : wpAny M A (spliced (backTo pos (starEach (e :: rest) env))) (fun vs s₁ => wpC M A (call (.type T) vs) Q E s₁) E s)
    (he : starEach (e :: rest) env = (false, eval e env) :: starEach rest env := by rfl)
    (hplain : (backTo pos (starEach rest env)).any (·.1) = false := by rfl) :
    wpC M A (callWith pos (.type T) [] (backTo pos (starEach (e :: rest) env)) []) Q E s := by
  rw [he] at h ⊢
  exact callWithC_type (by show (false || (backTo pos (starEach rest env)).any (·.1)) = false; rw [hplain]; rfl) (PySem.Calls.evalArgs_plain h)
theorem callWithC_fun1 {pos : Pos} {a : Addr} {o : Obj} {fd : FuncData} {e : Expr} {rest : List Expr} {Q : Value → Shared → Prop}
    (h : wpAny M A (spliced (backTo pos (starEach (e :: rest) env))) (fun vs s₁ => (s₁.heap.get? a = some o ∧ o.data = .func fd) ∧ wpC M A (call (.ref a) vs) Q E s₁) E s)
    (he : starEach (e :: rest) env = (false, eval e env) :: starEach rest env := by rfl) :
    wpC M A (callWith pos (.ref a) [] (backTo pos (starEach (e :: rest) env)) []) Q E s := by
  rw [he] at h ⊢
  exact callWithC_function (PySem.Calls.evalArgs_plain h)
end
section
variable {prog : Program} {w : World} {A A₀ : Around} {base h₀ : Heap} {outer : List Env} {s : Shared} {L : Addr} {m : Str → Option Value} {news : List (Addr × Obj)} {K : Frag} {p : Program} {loose : List Str} {mean : ExcName → Option Value} {mg mb : Str → Option Value}
theorem cod_def {env : Env} {R : Result → Shared → Prop} {name qual : Str} {params : Arguments} {body : List Stmt} {scope : Scope} {dV kV doc pm cdv ct oc : Value} {an od : Option Addr} {osl : Array (Option Value)} {f : Addr} {args : Args} {binds : List (Str × Value)}
    (B : Below A₀ base outer h₀) (F : Fr h₀ L s.heap m) (X₀ : K.In h₀) (N : News h₀ L s.heap news) (T : Top p loose mean mg mb h₀) (hA : A.frames = some (env :: outer)) (hf : env.frame = some L) (hke : env.scope.kind = .function)
    (ho : K.lookup f = some ⟨oc, od, .func (fnOf name qual params body scope dV kV doc pm an cdv ct), osl⟩) (hcd : codeIn K cdv qual = true) (hroom : A.depth < recursionLimit)
    (hbind : BindsTo s (fnOf name qual params body scope dV kV doc pm an cdv ct) args binds) (hloc : ∀ y ∈ binds, scope.names.lookup y.1 = some .local)
    (h : ∀ g L' h₁, Fr h₀ L g m → Fr g L' h₁ (fun y => binds.reverse.lookup y) → News g L' h₁ news → Below A base (env :: outer) g → K.In g → Top p loose mean mg mb g →
      wpC (model prog w) (A.deeper (envOf qual scope L' f cdv)) (execs body (envOf qual scope L' f cdv))
        (fun fl s' => LeaveK h₀ L m g R (match fl with | .ret v => v | _ => .none) s')
        (fun e s' => wpAny (model prog w) (A.deeper (envOf qual scope L' f cdv)) (leaving (envOf qual scope L' f cdv) e) (fun _ s'' => R (.error e) s'') (fun e' s'' => R (.error e') s'') s')
        { s with heap := h₁, toks := s.toks + binds.length })
    (hco : scope.isCoroutine = false) (hgen : scope.isGenerator = false) (hk : scope.kind = .function)
    (hcell : ∀ x ∈ scope.names, x.2 ≠ .cell) : codeC (model prog w) A (.call (.ref f) args) R s := by
  obtain ⟨FG, BG, st, lv⟩ := groundX (R := R) B F N hA hf hke
  have XK := X₀.keeps F.keep
  refine codeC_call_function hroom (XK _ _ ho) rfl hco hgen rfl (codeRec_of XK hcd) (hbind _ _ _ _ ?_)
  refine wpAny_newFunctionEnv hcell hloc (fun h₁ hns hsb => ⟨(T.nolimit.keeps F.keep).fresh _ hsb, codeC_func ?_⟩) hk
  have hk₁ : ∀ b o, s.heap.get? b = some o → h₁.get? b = some o := fun b o e => hsb.extBut b o (Nat.ne_of_lt (Heap.lt_size e)) (Heap.get?_push_of_some _ e)
  exact wpC_mono (h _ s.heap.objs.size h₁ FG ⟨hns, fun b o e => hk₁ b o (of_hideAll _ e), Nat.le_of_eq (hideAll_size _ _)⟩
    (fun p hp => ⟨hk₁ _ _ (N p hp).1, Nat.ne_of_lt (Heap.lt_size (N p hp).1), hideAll_none _ (List.mem_map_of_mem hp)⟩) BG (X₀.keeps st) (T.keeps st)) (fun fl s' hl => lv _ _ hl) fun _ _ y => y
end
end XClean2
section XHeadC
set_option maxRecDepth 100000

example : True := by
  k_with_none
  trivial

open Sem (wp)
section
theorem wp_of_clean {M : Model} {t : Sem Fin} {R : Result → Shared → Prop} {s : Shared} (h : wpC M callerA t (fun fin s' => ∃ f, fin = .done f ∧ R (.ok f) s') (fun e s' => R (.error e) s') s) (p : Pos) :
    wp M ⟨.builtin "claim.caller" {}, none, none, [], none⟩ t (Sem.finPost M ⟨.builtin "claim.caller" {}, none, none, [], none⟩ R) (fun e _ s' => R (.error e) s') p s := by
  refine Sem.wp_mono M _ t (fun fin p' s' h' => ?_) (fun _ _ _ h' => h') p s (h _ p caller_in (fun _ _ => by kernel_rfl) (fun c hc => nomatch hc))
  obtain ⟨f, rfl, hf⟩ := h'
  exact hf
theorem callFromC {c : ClaimW} {tree : List Value → Sem Fin} {w : World} {s : Shared} {free : Addr → Prop} {gens : Prop} {kept : Heap → Prop} (hz : s.asleep) (hgens : s.gens = #[])
    (hspec : ∀ args, c.pre args = true → WData.layableAll args = true → ∀ ord : List DictEntry → List DictEntry, (∀ l, (ord l).Perm l) →
      ∃ vs s₁, layAllW c.records (classAt s.heap) w.params ord args s = some (vs, s₁) ∧
        wpC (model c.prog w) callerA (tree vs) (fun fin s' => ∃ f, fin = .done f ∧ (c.Ends s args vs s₁ (.ok f) s' ∧ s'.os = s.os ∧ AllBare s'.gens ∧ kept s'.heap))
          (fun e s' => c.Ends s args vs s₁ (.error e) s' ∧ s'.os = s.os ∧ AllBare s'.gens ∧ kept s'.heap) s₁) :
    c.CallFrom (fun vs => ⟨tree vs, .builtin "claim.caller" {}, default, []⟩) w free gens kept s := by
  intro args hpre hlay ord hord
  obtain ⟨vs, s₁, hlaid, hcode⟩ := hspec args hpre hlay ord hord
  have hal := layAllW_rest _ _ _ hlaid
  obtain ⟨k, r, s'', s', hsched, hrun, hfo, hcase, hos, hkp⟩ := wp_halts_full (M := model c.prog w) (R := fun r s' => c.Ends s args vs s₁ r s' ∧ s'.os = s.os ∧ kept s'.heap) (Shared.asleep_of_life hal.2.2.2 hz)
    (wp_of_clean (R := fun r s' => (c.Ends s args vs s₁ r s' ∧ s'.os = s.os ∧ kept s'.heap) ∧ leftWithCleanup s'.gens = false)
      (wpC_mono hcode (fun fin s' ⟨f, e, h1, h2, h3, h4⟩ => ⟨f, e, ⟨h1, h2, h4⟩, leftWithCleanup_false_of_bare h3⟩) (fun e s' ⟨h1, h2, h3, h4⟩ => ⟨⟨h1, h2, h4⟩, leftWithCleanup_false_of_bare h3⟩)) default)
  obtain ⟨eh, _, _, eo, _⟩ := Shared.forget_eq hfo
  have hcase := hcase.congr eh
  have hkp : kept s'.heap := by first | exact eh ▸ hkp | (rw [eh] at hkp; exact hkp) | (rw [← eh] at hkp; exact hkp)
  rw [← eo] at hos
  have hlife : s'.heap.life = s.heap.life := (runN_life _ _ _ hrun).trans hal.2.2.2
  refine ⟨vs, s₁, hlaid, k, _, s', hsched, ?_, (fun _ i x hx => by rw [hgens] at hx; simp at hx), hkp, by rw [hlife], Shared.rest_eq hos⟩
  rcases hcase with ⟨v, rfl, d1, d2, d3, d4, d5⟩ | ⟨e, ob, cls, rfl, d1, d2, d3, d4, d5⟩
  · exact .inl ⟨v, rfl, d1, d2, d3, fun b o y _ => d4 b o y, d5⟩
  · exact .inr ⟨e, ob, cls, rfl, d1, d2, d3, d4, fun b o y _ => d5 b o y⟩
noncomputable abbrev WalkC (q : Program) (loose : List Str) (XP : (Str → Option Value) → Heap → Prop) (YP : World → Heap → Prop) (r : OpenRow) (d : DefRec) (kwd : List (Str × Expr)) : Prop :=
  ∀ (w : World) (s₀ s₁ : Shared) (mg mb : Str → Option Value), Ground q loose r.toRowW.records XP w s₀ mg mb s₁.heap → YP w s₁.heap → ∀ (a : Addr) (o : Obj) (pm cd doc dV kV : Value), s₁.heap.get? a = some o →
      o.data = .func { docDef d.name d.params d.body d.scope pm cd doc with defaults := dV, kwdefaults := kV } → s₁.heap.CodeRec cd d.name → Dflts mg s₁.heap d.params kwd dV kV → mg d.name = some (.ref a) → s₁.gens = #[] →
      ∀ (args : List WData) (vals : List Value) (as : List Addr), r.toRowW.claim.pre args = true → WData.layableAll args = true → ReadsAllW r.toRowW.records (classAt s₀.heap) s₁.heap vals args as → WellAll w.params s₁.heap vals args → (∀ a ∈ as, (a == sysModules) = false) →
        wpC (model r.toRowW.prog w) callerA (PySem.call (.ref a) vals) (fun v s' => GoodWG r.toRowW.claim (classAt s₀.heap) (ExcName.means s₀.heap) args s₁ (.ok (.ret v)) s')
          (fun e s' => GoodWG r.toRowW.claim (classAt s₀.heap) (ExcName.means s₀.heap) args s₁ (.error e) s') s₁
theorem openC {r : OpenRow} {q : Program} {loose : List Str} {Xt : Shared → Bool} {XP : (Str → Option Value) → Heap → Prop} {α : Type} {Yf : Shared → α} {Ya : World → α} {YP : World → Heap → Prop} {d : DefRec} {kwd : List (Str × Expr)} {N : Nat}
    (left : LeftO r.prog q loose Xt Yf Ya N) (hY : ∀ w s, Yf s = Ya w → YP w s.heap) (hYk : ∀ w h h', YP w h → (∀ b o, h.get? b = some o → h'.get? b = some o) → YP w h')
    (hX : ∀ s, Xt s = true → XP (s.heap.nsMap mainGlobals) s.heap) (hXk : ∀ mg h h', XP mg h → (∀ b o, h.get? b = some o → h'.get? b = some o) → XP mg h')
    (hdef : defOf q r.name = some (d, kwd)) (hp : r.prog.theDef r.name = some (d.params, d.body, d.scope)) (hk : kwWritten? d.params.kwonlyargs d.params.kw_defaults = some kwd) (hRf : ∀ s, Xt s = true → RecFacts r.records s.heap) (hwr : (!r.writes || r.records.isEmpty) = true)
    (k1 : r.wellSaid = true) (ok : (chainsOk q && opensWell r.prog && (frees r.toRowW && r.within.isEmpty)) = true) (hb : r.prog.bare) (hw : r.toRowW.promised)
    (call : WalkC q loose XP YP r d kwd) : r.Holds := by
  refine ⟨k1, hw, ?_⟩
  obtain ⟨ok, k5⟩ := Bool.and_eq_true_iff.mp ok
  obtain ⟨hch, o1⟩ := Bool.and_eq_true_iff.mp ok
  obtain ⟨k5, k6⟩ := Bool.and_eq_true_iff.mp k5
  obtain ⟨hsame, hu, ha, hap, hm⟩ := frees_parts k5
  refine ⟨⟨hb, o1, by show r.makers.map _ = []; rw [hm]; rfl⟩, hw.witness, fun w => ⟨(left.behind hX hch w).1, fun s' hs' => ?_⟩⟩
  obtain ⟨s₀, hf, hg0, s, hT, hz, hgens, hg, G00, y⟩ := (left.behind (XP := fun mg h => XP mg h ∧ RecFacts r.records h) (fun s hs => ⟨hX s hs, hRf s hs⟩) hch w).2 s' hs'
  have G0 : Ground q loose [] XP w s (s.heap.nsMap mainGlobals) (s.heap.nsMap builtinsNs) s.heap := ⟨G00.T, G00.B, G00.D, G00.TE, G00.TD, G00.W, G00.X.1, G00.cls, G00.has, G00.apart, G00.once, G00.K⟩
  have RF := G00.X.2
  have hT' := hT
  refine ⟨s₀, hf, hg0, s, hT, fun n hn => ?_, RF.1, RF.2.1, ?_⟩
  · obtain rfl : n = r.name := by split at hn <;> simp_all
    exact pinned_of_view hg G0 hdef hp hk
  have hgens : s.gens = #[] := Array.eq_empty_of_size_eq_zero (beq_iff_eq.mp hgens)
  have G : Ground q loose r.records XP w s _ _ s.heap := RF.ground G0
  refine callFromC (c := r.toRowW.claim) hz hgens fun args hpre hlay ord hord => ?_
  obtain ⟨⟨vs, s₁⟩, hlaid⟩ := Option.isSome_iff_exists.mp (layAllW_isSome (P := w.params) (ord := ord) G.has args r.args s (pre_splitW hpre).1)
  have keeps := layAllW_keeps _ _ _ hlaid
  have hal := layAllW_rest _ _ _ hlaid
  obtain ⟨as, hrd, hin, hold⟩ := reads_layAllW hord _ _ _ hlaid hlay s₁.heap (fun _ _ e => e)
  have L : Laid r.records w s s₁ args vs as := ⟨⟨ord, hord, hlaid⟩, hrd, hin, hold, keeps, hal.1.trans hgens, hal.2.2.1⟩
  have G₁ := G.keeps hXk keeps
  obtain ⟨a, o, pm, cd, doc, dV, kV, h1, h2, h3, h4, h5⟩ := G₁.fn hdef
  have h := call w s s₁ _ _ G₁ (hYk _ _ _ (hY w s y) keeps) a o pm cd doc dV kV h2 h3 h4 h5 (defOf_name hdef ▸ h1) L.gens args vs as hpre hlay L.reads L.well (L.low G.low)
  have hi := ident_freeW hu ha hap
  have hwi : r.toRowW.claim.within = [] := List.isEmpty_iff.mp k6
  refine ⟨vs, s₁, hlaid, ?_⟩
  refine wpC_step (wpAny_nsGet G₁.T.g ?_)
  rw [h1]
  refine wpC_bind (wpC_mono h (fun v s' g => wpC_pure ⟨.ret v, rfl, ?_⟩) fun e s' g => ?_)
  · have z := g.laid (c := r.toRowW.claim) hsame hwi hi L
    exact ⟨z.1, z.2.1, z.2.2, fun q => ⟨namesKept_of hT' hg _ keeps g.2.1.old, noTable hwr q⟩⟩
  · have z := g.laid (c := r.toRowW.claim) hsame hwi hi L
    exact ⟨z.1, z.2.1, z.2.2, fun q => ⟨namesKept_of hT' hg _ keeps g.2.1.old, noTable hwr q⟩⟩
end
set_option maxHeartbeats 0 in
theorem law_ok : PySem.Challenge.rw_xp0032_01.wellSaid = true := by
  unfold OpenLaw.wellSaid OpenRow.wellSaid OpenRow.partSaid looksOpen
  repeat' with_reducible refine look_both ?_ ?_
  all_goals decide +kernel
theorem law_said (h : PySem.Challenge.rw_xp0032_01.row.wellSaid = true → PySem.Challenge.rw_xp0032_01.row.Holds) : PySem.Challenge.rw_xp0032_01.Holds := holds_law law_ok h
noncomputable def hdC := fun walk => law_said fun said => openC (q := Mine.hd.view_39) (loose := [Str.ofString "insort_left", Str.ofString "bisect_left", Str.ofString "_Accumulator", Str.ofString "_quoted", Str.ofString "_paren_depth"]) (Xt := fun s => xlAt Mine.hd.view_39 [] s && recOk PySem.Challenge.rw_xp0032_01.row.records s) (XP := XL Mine.hd.view_39 [])
  leftC
  hookC.of
  hookC.keeps
  (fun s e => xl_of s (Bool.and_eq_true_iff.mp e).left) XL.keeps rfl rfl rfl (fun s e => recFacts_of (Bool.and_eq_true_iff.mp e).right) rfl said (by decide +kernel) ⟨rfl, rfl, rfl, rfl, rfl, (by decide +kernel)⟩
  (Exists.intro [WData.list []] ⟨(by decide +kernel), (by decide +kernel)⟩) walk
end XHeadC
section XLam
set_option maxRecDepth 100000

example : True := by
  k_with_none
  trivial

noncomputable def Lam (P : Addr) (qual : Str) (pos : Pos) (bad : List Addr) (led : List (Addr × Obj)) : Prop :=
  (P, tabObj #[]) ∈ led ∨ ∃ c' oc vs t, (P, tabObj #[rawInt pos.line, rawInt pos.col, .ref c']) ∈ led ∧ (c', oc) ∈ led ∧ oc.data = .fields vs ∧ vs[1]? = some (.str qual t) ∧ c' ≠ P ∧ ∀ b ∈ bad, c' ≠ b
section
variable {M : Model} {A : Around} {E : Value → Shared → Prop} {s : Shared} {h₀ : Heap} {L a c P : Addr} {m mg mb : Str → Option Value} {cn : Str} {cs : Scope} {ccd : Value} {cl : List (Str × Addr)} {news : List (Addr × Obj)}
  {p : Program} {loose : List Str} {mean : ExcName → Option Value} {params : Arguments} {body : Expr} {scope : Scope} {pos : Pos} {bad : List Addr}
theorem lamS {Q : Value → Shared → Prop} (F : Fr h₀ L s.heap m) (N : News h₀ L s.heap news) (T : Top p loose mean mg mb h₀) (C : CodeHd h₀ c P) (hcd : ccd = .ref c)
    (hl : Lam P ((envX cn cs L a ccd cl).qual ++ "<lambda>") pos bad news) (hbad : ∀ b ∈ bad, ∃ o, (b, o) ∈ news)
    (hdef : defaultsOf params (envX cn cs L a ccd cl) = ([], [])) (hcl : closureFor scope (envX cn cs L a ccd cl) = pure [])
    (h : ∀ f c' oc vs t ctv h' tk led', Fr h₀ L h' m → News h₀ L h' led' →
      (f, kla_obj "<lambda>" ((envX cn cs L a ccd cl).qual ++ "<lambda>") params body scope [] ((mg "__name__").getD .none) c' ctv) ∈ led' → (c', oc) ∈ led' →
      oc.data = .fields vs → vs[1]? = some (.str ((envX cn cs L a ccd cl).qual ++ "<lambda>") t) → (P, tabObj #[rawInt pos.line, rawInt pos.col, .ref c']) ∈ led' → (∀ q ∈ news, q.1 ≠ P → q ∈ led') →
      (∀ q ∈ news, q.1 < f) → c' ≠ P → (∀ b ∈ bad, c' ≠ b) → Q (.ref f) { s with heap := h', toks := tk }) :
    wpAny M A (eval (.Lambda params body scope pos) (envX cn cs L a ccd cl)) Q E s := by
  refine kla_eval hdef ?_
  rcases hl with hl | ⟨c', oc, vs, t, hl, hoc, hd, hv, hcP, hcb⟩
  · refine kla_nest F (news_turnTo N hl) T C hcd (ps := #[]) (.head fun p hp => by simpa using (List.mem_filter.mp hp).2) True.intro rfl hcl ?_
    intro f c' oc vs t ctv h' tk F' N' hd hv hlt hcf
    dsimp only at N'
    have hold : ∀ q ∈ news, q.1 < c' := fun q hq => by
      by_cases e : q.1 = P
      · rw [e]; exact hlt _ turnTo_new
      · exact hlt _ (turnTo_old hq e)
    refine h f c' oc vs t ctv h' tk _ F' N' (.head _) (.tail _ (.head _)) hd hv (.tail _ (.tail _ (.head _))) (fun q hq hn => .tail _ (.tail _ (turnTo_old hq hn))) (fun q hq => Nat.lt_trans (hold q hq) hcf) ?_ ?_
    · exact Nat.ne_of_gt (hold _ hl)
    · intro b hb
      obtain ⟨o, ho⟩ := hbad b hb
      exact Nat.ne_of_gt (hold _ ho)
  · refine kla_hit F N T C hcd hl (by simp [TriplesOk, rawInt]) (c' := c') (by simp [codeAmong, rawInt]) hcl ?_
    intro f ctv h' tk F' N' hlt
    exact h f c' oc vs t ctv h' tk _ F' N' (.head _) (.tail _ hoc) hd hv (.tail _ hl) (fun q hq _ => .tail _ hq) (fun q hq => hlt q hq) hcP hcb
end
end XLam
section XTable
set_option maxRecDepth 100000

example : True := by
  k_with_none
  trivial

example : True := by
  k_with "exec For Name Name cons nil" => (k_here; (with_unfolding_all refine' For_invVF ?wkkF ?wkk1 ?wkk2 ?_; (case wkkF => k_asm); (case wkk1 => exact rfl); (case wkk2 => exact rfl); k_whole))
  k_with "exec For Name List cons nil" => (k_here; (with_unfolding_all refine' For_invVF ?wkkF ?wkk1 ?wkk2 ?_; (case wkkF => k_asm); (case wkk1 => exact rfl); (case wkk2 => exact rfl); k_whole))
  k_with "exec For Name Call cons nil" => (k_here; (with_unfolding_all refine' For_invVF ?wkkF ?wkk1 ?wkk2 ?_; (case wkkF => k_asm); (case wkk1 => exact rfl); (case wkk2 => exact rfl); k_whole))
  k_with "exec For Name Subscript cons nil" => (k_here; (with_unfolding_all refine' For_invVF ?wkkF ?wkk1 ?wkk2 ?_; (case wkkF => k_asm); (case wkk1 => exact rfl); (case wkk2 => exact rfl); k_whole))
  k_with "pyIter ref" => refine Held.mk ?_
  k_with "pyIter bytes" => refine Held.mk ?_
  trivial
noncomputable def fK (x : Int) : Int := Int.fdiv x 2
noncomputable def fOf (x : Int) : Int → Int := if Int.fmod x 2 = 0 then id else fK
noncomputable def rowStep (ns : List Int) (x : Int) : List Int × Option Int :=
  if (insI (fOf x) ns x).idxOf x + 1 = (insI (fOf x) ns x).length then (insI (fOf x) ns x, none)
  else ((insI (fOf x) ns x).eraseIdx ((insI (fOf x) ns x).idxOf x + 1), some ((insI (fOf x) ns x).getD ((insI (fOf x) ns x).idxOf x + 1) 0))
noncomputable def bump : List (List Int) → Int → List (List Int) × Option Int
  | [], x => ([], some x)
  | r :: rs, x => match rowStep r x with
    | (r', none) => (r' :: rs, none)
    | (r', some y) => (r' :: (bump rs y).1, (bump rs y).2)
noncomputable def twinStep (rows : List (List Int)) (x : Int) : List (List Int) := match bump rows x with
  | (rows', none) => rows'
  | (rows', some y) => if 0 ≤ y then rows' ++ [[y]] else rows'
noncomputable def letterStep (rows : List (List Int)) (c : Int) : List (List Int) := twinStep (twinStep rows (2 * c)) (2 * c + 1)
noncomputable def tableOf (ks : List Int) : List (List Int) := ks.foldl letterStep []

inductive RowsAt (led : List (Addr × Obj)) : List Addr → List (List Int) → Prop
  | nil : RowsAt led [] []
  | cons {a : Addr} {as : List Addr} {ns : List Int} {rows : List (List Int)} {ws : List Value} {n : Nat} : (a, listOf ws.toArray n) ∈ led → IntsAre ws ns → RowsAt led as rows → RowsAt led (a :: as) (ns :: rows)
theorem RowsAt.mono {led led' : List (Addr × Obj)} {as : List Addr} {rows : List (List Int)} (R : RowsAt led as rows) (h : ∀ a ∈ as, ∀ o, (a, o) ∈ led → (a, o) ∈ led') : RowsAt led' as rows := by
  induction R with
  | nil => exact .nil
  | cons hm hi _ ih => exact .cons (h _ (.head _) _ hm) hi (ih fun a ha o ho => h a (.tail _ ha) o ho)
theorem RowsAt.len {led : List (Addr × Obj)} {as : List Addr} {rows : List (List Int)} (R : RowsAt led as rows) : as.length = rows.length := by
  induction R with
  | nil => rfl
  | cons _ _ _ ih => simp [ih]
theorem RowsAt.get {led : List (Addr × Obj)} {as : List Addr} {rows : List (List Int)} (R : RowsAt led as rows) : ∀ {i : Nat} {a : Addr}, as[i]? = some a → ∃ ns ws n, rows[i]? = some ns ∧ (a, listOf ws.toArray n) ∈ led ∧ IntsAre ws ns := by
  induction R with
  | nil => intro i a h; simp at h
  | cons hm hi _ ih =>
    intro i a h
    cases i with
    | zero => simp at h; subst h; exact ⟨_, _, _, rfl, hm, hi⟩
    | succ i => exact ih (by simpa using h)
theorem RowsAt.set {led led' : List (Addr × Obj)} {as : List Addr} {rows : List (List Int)} (R : RowsAt led as rows) : ∀ {i : Nat} {a : Addr} {ws' : List Value} {n' : Nat} {ns' : List Int}, as.Nodup → as[i]? = some a → (∀ p ∈ led, p.1 ≠ a → p ∈ led') →
    (a, listOf ws'.toArray n') ∈ led' → IntsAre ws' ns' → RowsAt led' as (rows.set i ns') := by
  induction R with
  | nil => intro i a ws' n' ns' _ h; simp at h
  | @cons b bs ns rows ws n hm hi R ih =>
    intro i a ws' n' ns' nd h hk hn hi'
    obtain ⟨hb, nd'⟩ := List.nodup_cons.mp nd
    cases i with
    | zero =>
      simp at h; subst h
      refine .cons hn hi' (R.mono fun c hc o ho => hk _ ho fun e => hb (by rw [← e]; exact hc))
    | succ i =>
      have h' : bs[i]? = some a := by simpa using h
      refine .cons (hk _ hm fun e => hb (by rw [show b = a from e]; exact List.mem_of_getElem? h')) hi (ih nd' h' hk hn hi')
theorem RowsAt.snoc {led : List (Addr × Obj)} {as : List Addr} {rows : List (List Int)} (R : RowsAt led as rows) {a : Addr} {ws : List Value} {n : Nat} {ns : List Int} (hm : (a, listOf ws.toArray n) ∈ led) (hi : IntsAre ws ns) : RowsAt led (as ++ [a]) (rows ++ [ns]) := by
  induction R with
  | nil => exact .cons hm hi .nil
  | cons hm' hi' _ ih => exact .cons hm' hi' ih

noncomputable def lamQual : Str := ((Str.ofString "_law_table") ++ ".<locals>.") ++ "<lambda>"
noncomputable def lamPos : Pos := ⟨200, 49, 200, 69⟩
theorem Lam.mono {P : Addr} {qual : Str} {pos : Pos} {bad bad' : List Addr} {led led' : List (Addr × Obj)} (h : Lam P qual pos bad led) (hk : ∀ p ∈ led, p.1 ∉ bad → p ∈ led') (hP : P ∉ bad) (hb : ∀ b ∈ bad', b ∉ bad → ∀ o, (b, o) ∉ led) : Lam P qual pos bad' led' := by
  rcases h with h | ⟨c', oc, vs, t, h1, h2, h3, h4, h5, h6⟩
  · exact .inl (hk _ h hP)
  · have hc : c' ∉ bad := fun q => h6 _ q rfl
    refine .inr ⟨c', oc, vs, t, hk _ h1 hP, hk _ h2 hc, h3, h4, h5, fun b hb' e => ?_⟩
    subst e
    exact hb _ hb' hc _ h2
structure TS (Rl : Addr) (as : List Addr) (nR : Nat) (rest led : List (Addr × Obj)) (rows : List (List Int)) : Prop where
  mem : (Rl, listOf (as.map Value.ref).toArray nR) ∈ led
  rows : RowsAt led as rows
  nd : (253 :: Rl :: as).Nodup
  lam : Lam 253 lamQual lamPos (Rl :: as ++ rest.map (·.1)) led
  keep : ∀ p ∈ rest, p ∈ led
  off : ∀ p ∈ rest, p.1 ∉ 253 :: Rl :: as
section
variable {Rl : Addr} {as : List Addr} {nR : Nat} {rest led led' : List (Addr × Obj)} {rows : List (List Int)}
theorem TS.P_not (S : TS Rl as nR rest led rows) : 253 ∉ Rl :: as ++ rest.map (·.1) := fun h => by
  rcases List.mem_append.mp h with h | h
  · exact (List.nodup_cons.mp S.nd).1 h
  · obtain ⟨p, hp, e⟩ := List.mem_map.mp h
    exact S.off p hp (by rw [e]; exact .head _)
theorem TS.set (S : TS Rl as nR rest led rows) {i : Nat} {a : Addr} {ws' : List Value} {n' : Nat} {ns' : List Int} (ha : as[i]? = some a) (hk : ∀ p ∈ led, p.1 ≠ a → p ∈ led') (hn : (a, listOf ws'.toArray n') ∈ led') (hi : IntsAre ws' ns') : TS Rl as nR rest led' (rows.set i ns') := by
  have hma := List.mem_of_getElem? ha
  obtain ⟨n1, n2⟩ := List.nodup_cons.mp S.nd
  obtain ⟨n3, n4⟩ := List.nodup_cons.mp n2
  refine ⟨hk _ S.mem fun e => n3 (by rw [show Rl = a from e]; exact hma), S.rows.set n4 ha hk hn hi, S.nd, S.lam.mono (fun p hp hb => hk _ hp fun e => hb ?_) S.P_not (fun b hb hn => absurd hb hn), fun p hp => hk _ (S.keep p hp) fun e => S.off p hp (by rw [e]; exact .tail _ (.tail _ hma)), S.off⟩
  rw [e]; exact List.mem_append_left _ (.tail _ hma)
theorem TS.grow (S : TS Rl as nR rest led rows) (hk : ∀ p ∈ led, p ∈ led') : TS Rl as nR rest led' rows :=
  ⟨hk _ S.mem, S.rows.mono fun _ _ _ h => hk _ h, S.nd, S.lam.mono (fun p hp _ => hk _ hp) S.P_not (fun b hb hn => absurd hb hn), fun p hp => hk _ (S.keep p hp), S.off⟩
theorem TS.ne (S : TS Rl as nR rest led rows) {I : Addr} (ho : ∀ p ∈ led, p.1 ≠ I) (hI : I ≠ 253) : I ∉ 253 :: Rl :: as := fun h => by
  rcases List.mem_cons.mp h with h | h
  · exact hI h
  · rcases List.mem_cons.mp h with h | h
    · exact ho _ S.mem h.symm
    · obtain ⟨i, hi⟩ := List.getElem?_of_mem h
      obtain ⟨_, _, _, _, hm, _⟩ := S.rows.get hi
      exact ho _ hm rfl
theorem TS.tab (S : TS Rl as nR rest led rows) : ∃ o, (253, o) ∈ led := by
  rcases S.lam with h | ⟨_, _, _, _, h, _⟩ <;> exact ⟨_, h⟩
theorem TS.ne253 (S : TS Rl as nR rest led rows) {I : Addr} (ho : ∀ p ∈ led, p.1 ≠ I) : I ≠ 253 := fun e => by
  obtain ⟨o, h⟩ := S.tab
  exact ho _ h e.symm
theorem TS.enter (S : TS Rl as nR rest led rows) {I : Addr} {ito : Obj} (ho : ∀ p ∈ led, p.1 ≠ I) : TS Rl as nR ((I, ito) :: rest) ((I, ito) :: led) rows := by
  refine ⟨.tail _ S.mem, S.rows.mono fun _ _ _ h => .tail _ h, S.nd, S.lam.mono (fun p hp _ => .tail _ hp) S.P_not (fun b hb hn o hm => ?_), fun p hp => ?_, fun p hp => ?_⟩
  · rcases List.mem_append.mp hb with h | h
    · exact hn (List.mem_append_left _ h)
    · rcases List.mem_cons.mp h with h | h
      · exact ho _ hm h
      · exact hn (List.mem_append_right _ h)
  · rcases List.mem_cons.mp hp with rfl | hp
    · exact .head _
    · exact .tail _ (S.keep p hp)
  · rcases List.mem_cons.mp hp with rfl | hp
    · exact S.ne ho (S.ne253 ho)
    · exact S.off p hp
theorem TS.leave {I : Addr} {ito : Obj} (S : TS Rl as nR ((I, ito) :: rest) led rows) (hr : ∀ p ∈ rest, p.1 ≠ I) : TS Rl as nR rest (led.filter fun p => p.1 != I) rows := by
  have hI := S.off _ (.head _)
  have f : ∀ p ∈ led, p.1 ≠ I → p ∈ led.filter fun p => p.1 != I := fun p hp hn => List.mem_filter.mpr ⟨hp, by simpa using hn⟩
  refine ⟨f _ S.mem fun e => hI (by rw [← e]; exact .tail _ (.head _)), S.rows.mono fun a ha o h => f _ h fun e => hI (by rw [← e]; exact .tail _ (.tail _ ha)), S.nd, S.lam.mono (fun p hp hb => f _ hp fun e => hb ?_) S.P_not (fun b hb hn => absurd ?_ hn), fun p hp => f _ (S.keep p (.tail _ hp)) (hr p hp), fun p hp => S.off p (.tail _ hp)⟩
  · rw [e]; exact List.mem_append_right _ (.head _)
  · rcases List.mem_append.mp hb with h | h
    · exact List.mem_append_left _ h
    · exact List.mem_append_right _ (.tail _ h)
theorem TS.lamd (S : TS Rl as nR rest led rows) {c' : Addr} {oc : Obj} {vs : Array Value} {t : Tok} (hk : ∀ p ∈ led, p.1 ≠ 253 → p ∈ led') (h1 : (253, tabObj #[rawInt lamPos.line, rawInt lamPos.col, .ref c']) ∈ led') (h2 : (c', oc) ∈ led')
    (h3 : oc.data = .fields vs) (h4 : vs[1]? = some (.str lamQual t)) (h5 : c' ≠ 253) (h6 : ∀ b ∈ Rl :: as ++ rest.map (·.1), c' ≠ b) : TS Rl as nR rest led' rows := by
  have h253 := (List.nodup_cons.mp S.nd).1
  refine ⟨hk _ S.mem fun e => h253 (by rw [← show Rl = 253 from e]; exact .head _), S.rows.mono fun a ha o h => hk _ h fun e => h253 (by rw [← show a = 253 from e]; exact .tail _ ha), S.nd, .inr ⟨c', oc, vs, t, h1, h2, h3, h4, h5, h6⟩, fun p hp => hk _ (S.keep p hp) fun e => S.off p hp (by rw [e]; exact .head _), S.off⟩
theorem TS.bad (S : TS Rl as nR rest led rows) : ∀ b ∈ Rl :: as ++ rest.map (·.1), ∃ o, (b, o) ∈ led := fun b hb => by
  rcases List.mem_append.mp hb with h | h
  · rcases List.mem_cons.mp h with rfl | h
    · exact ⟨_, S.mem⟩
    · obtain ⟨i, hi⟩ := List.getElem?_of_mem h
      obtain ⟨_, _, _, _, hm, _⟩ := S.rows.get hi
      exact ⟨_, hm⟩
  · obtain ⟨p, hp, rfl⟩ := List.mem_map.mp h
    exact ⟨_, S.keep p hp⟩
theorem TS.app (S : TS Rl as nR rest led rows) {a : Addr} {ws : List Value} {n n' : Nat} {ns : List Int} (hf : ∀ p ∈ led, p.1 ≠ a) (hk : ∀ p ∈ led, p.1 ≠ Rl → p ∈ led') (h1 : (Rl, listOf ((as ++ [a]).map Value.ref).toArray n') ∈ led')
    (h2 : (a, listOf ws.toArray n) ∈ led') (hi : IntsAre ws ns) : TS Rl (as ++ [a]) n' rest led' (rows ++ [ns]) := by
  have ha : a ∉ 253 :: Rl :: as := S.ne hf (S.ne253 hf)
  obtain ⟨n1, n2⟩ := List.nodup_cons.mp S.nd
  obtain ⟨n3, n4⟩ := List.nodup_cons.mp n2
  have nd : (253 :: Rl :: (as ++ [a])).Nodup := by
    rw [show 253 :: Rl :: (as ++ [a]) = (253 :: Rl :: as) ++ [a] from rfl]
    refine List.nodup_append.mpr ⟨S.nd, by simp, fun x hx y hy e => ?_⟩
    rw [List.mem_singleton.mp hy] at e
    exact ha (e ▸ hx)
  refine ⟨h1, (S.rows.mono fun b hb o h => hk _ h fun e => n3 (by rw [← show b = Rl from e]; exact hb)).snoc h2 hi, nd, S.lam.mono (fun p hp hb => hk _ hp fun e => hb ?_) S.P_not (fun b hb hn o hm => ?_), fun p hp => hk _ (S.keep p hp) fun e => S.off p hp (by rw [e]; exact .tail _ (.head _)), fun p hp => ?_⟩
  · rw [e]; exact List.mem_append_left _ (.head _)
  · rcases List.mem_append.mp hb with h | h
    · rcases List.mem_cons.mp h with h | h
      · exact hn (List.mem_append_left _ (by rw [h]; exact .head _))
      · rcases List.mem_append.mp h with h | h
        · exact hn (List.mem_append_left _ (.tail _ h))
        · exact hf _ hm (List.mem_singleton.mp h)
    · exact hn (List.mem_append_right _ h)
  · intro h
    rcases List.mem_cons.mp h with h | h
    · exact S.off p hp (by rw [h]; exact .head _)
    · rcases List.mem_cons.mp h with h | h
      · exact S.off p hp (by rw [h]; exact .tail _ (.head _))
      · rcases List.mem_append.mp h with h | h
        · exact S.off p hp (.tail _ (.tail _ h))
        · exact hf _ (S.keep p hp) (List.mem_singleton.mp h)
end
theorem TS.start {Rl : Addr} {rest led : List (Addr × Obj)} (hlam : Lam 253 lamQual lamPos (rest.map (·.1)) led) (hrest : ∀ p ∈ rest, p ∈ led) (hoff : ∀ p ∈ rest, p.1 ≠ 253) (hl : ∀ p ∈ led, p.1 < Rl) : TS Rl [] 0 rest ((Rl, listOf #[] 0) :: led) [] := by
  have h253 : 253 ≠ Rl := by
    rcases hlam with h | ⟨_, _, _, _, h, _⟩
    · exact Nat.ne_of_lt (hl _ h)
    · exact Nat.ne_of_lt (hl _ h)
  refine ⟨.head _, .nil, by simp [h253], hlam.mono (fun p hp _ => .tail _ hp) (fun h => ?_) (fun b hb hn o hm => ?_), fun p hp => .tail _ (hrest p hp), fun p hp h => ?_⟩
  · obtain ⟨p, hp, e⟩ := List.mem_map.mp h
    exact hoff p hp e
  · rcases List.mem_append.mp hb with h | h
    · have e := List.mem_singleton.mp h
      subst e
      exact Nat.lt_irrefl _ (hl _ hm)
    · exact hn h
  · rcases List.mem_cons.mp h with h | h
    · exact hoff p hp h
    · have e := List.mem_singleton.mp h
      exact Nat.lt_irrefl Rl (by have := hl _ (hrest p hp); rw [e] at this; exact this)
theorem TS.fresh {Rl : Addr} {as : List Addr} {nR : Nat} {rest led : List (Addr × Obj)} {rows : List (List Int)} (S : TS Rl as nR rest led rows) {d : Addr} {o : Obj} (hl : ∀ p ∈ led, p.1 < d) : TS Rl as nR ((d, o) :: rest) ((d, o) :: led) rows :=
  S.enter fun p hp => Nat.ne_of_lt (hl p hp)
theorem bump_next {rows rows₀ : List (List Int)} {k : Nat} {ns r' : List Int} {mv x y : Int} (hk : rows[k]? = some ns) (he : (rows.take k ++ (bump (rows.drop k) mv).1, (bump (rows.drop k) mv).2) = bump rows₀ x) (hs : rowStep ns mv = (r', some y)) :
    ((rows.set k r').take (k + 1) ++ (bump ((rows.set k r').drop (k + 1)) y).1, (bump ((rows.set k r').drop (k + 1)) y).2) = bump rows₀ x := by
  obtain ⟨hl, hg⟩ := List.getElem?_eq_some_iff.mp hk
  rw [List.drop_eq_getElem_cons hl, hg] at he
  have e : bump (ns :: rows.drop (k + 1)) mv = (r' :: (bump (rows.drop (k + 1)) y).1, (bump (rows.drop (k + 1)) y).2) := by
    show (match rowStep ns mv with | (r', none) => (r' :: rows.drop (k + 1), none) | (r', some y) => (r' :: (bump (rows.drop (k + 1)) y).1, (bump (rows.drop (k + 1)) y).2)) = _
    rw [hs]
  rw [e] at he
  rw [List.drop_set_of_lt (by omega), List.take_add_one, List.take_set_of_le (Nat.le_refl k), List.getElem?_set_self hl, ← he]
  simp
theorem bump_brk {rows rows₀ : List (List Int)} {k : Nat} {ns r' : List Int} {mv x : Int} (hk : rows[k]? = some ns) (he : (rows.take k ++ (bump (rows.drop k) mv).1, (bump (rows.drop k) mv).2) = bump rows₀ x) (hs : rowStep ns mv = (r', none)) :
    twinStep rows₀ x = rows.set k r' := by
  obtain ⟨hl, hg⟩ := List.getElem?_eq_some_iff.mp hk
  rw [List.drop_eq_getElem_cons hl, hg] at he
  have e : bump (ns :: rows.drop (k + 1)) mv = (r' :: rows.drop (k + 1), none) := by
    show (match rowStep ns mv with | (r', none) => (r' :: rows.drop (k + 1), none) | (r', some y) => (r' :: (bump (rows.drop (k + 1)) y).1, (bump (rows.drop (k + 1)) y).2)) = _
    rw [hs]
  rw [e] at he
  unfold twinStep
  rw [← he]
  show rows.take k ++ r' :: rows.drop (k + 1) = rows.set k r'
  rw [List.set_eq_take_append_cons_drop, if_pos hl]
theorem bump_done {rows rows₀ : List (List Int)} {k : Nat} {mv x : Int} (hk : k = rows.length) (he : (rows.take k ++ (bump (rows.drop k) mv).1, (bump (rows.drop k) mv).2) = bump rows₀ x) :
    twinStep rows₀ x = if 0 ≤ mv then rows ++ [[mv]] else rows := by
  subst hk
  rw [List.drop_length, List.take_length] at he
  unfold twinStep
  rw [← he]
  simp [bump]
theorem TS.endOf {h₀ h : Heap} {L Rl I : Addr} {ito : Obj} {as : List Addr} {nR : Nat} {rest led : List (Addr × Obj)} {rows : List (List Int)} (S : TS Rl as nR ((I, ito) :: rest) led rows) (N : News h₀ L h led) (hr : ∀ p ∈ rest, p.1 ≠ I) :
    ∃ led'', News h₀ L h ((I, ito) :: led'') ∧ (∀ p ∈ led'', p.1 ≠ I) ∧ TS Rl as nR rest led'' rows ∧ News h₀ L h led'' :=
  ⟨_, fun p hp => by
    rcases List.mem_cons.mp hp with rfl | hp
    · exact N _ (S.keep _ (.head _))
    · exact N _ (List.mem_filter.mp hp).1, fun p hp => by simpa using (List.mem_filter.mp hp).2, S.leave hr, fun p hp => N _ (List.mem_filter.mp hp).1⟩
theorem fOf_even {x : Int} (h : Int.fmod x 2 = 0) : fOf x = id := if_pos h
theorem fOf_odd {x : Int} (h : ¬ Int.fmod x 2 = 0) : fOf x = fK := if_neg h
theorem rowStep_end {f : Int → Int} {ns : List Int} {x : Int} (hf : fOf x = f) (h : ((insI f ns x).idxOf x : Int) + 1 = ((insI f ns x).length : Int)) : rowStep ns x = (insI f ns x, none) := by
  unfold rowStep
  rw [hf, if_pos (by omega)]
theorem rowStep_go {f : Int → Int} {ns : List Int} {x : Int} (hf : fOf x = f) (h : ¬ ((insI f ns x).idxOf x : Int) + 1 = ((insI f ns x).length : Int)) :
    rowStep ns x = ((insI f ns x).eraseIdx ((insI f ns x).idxOf x + 1), some ((insI f ns x).getD ((insI f ns x).idxOf x + 1) 0)) := by
  unfold rowStep
  rw [hf, if_neg (by omega)]
theorem fr_pin {h₀ h : Heap} {L : Addr} {m : Str → Option Value} {x : Str} {v : Value} (F : Fr h₀ L h m) (hv : m x = some v) : Fr h₀ L h (fun y => if y = x then some v else m y) := by
  have e : (fun y => if y = x then some v else m y) = m := by
    funext y
    by_cases h : y = x
    · subst h; rw [if_pos rfl, hv]
    · rw [if_neg h]
  rw [e]; exact F
example : True := by
  k_with "call ref" => refine Held.mk ?_
  k_with "TPost" => dsimp only [TPost]
  k_with "call builtin:list.index" => (k_here; k_dflt (refine' index_led ?wkN ?wkm ?wki (insI_mem _ _ _) ?wkz ?_; (case wkN => k_asm); (case wkm => assumption); (case wki => assumption); (case wkz => assumption)))
  k_with "call builtin:list.pop" => (k_here; k_dflt (refine' pop_ledI (natSucc _) ?wkF ?wkN ?wkm ?wki ?wkx ?wkz ?_; (case wkF => k_asm); (case wkN => k_asm); (case wkm => assumption); (case wki => assumption); (case wkx => omega); (case wkz => assumption)); intro _ _ _ _ _ _ _ _ _ _)
  k_with "call builtin:list.append" => (k_here; k_dflt (refine' append_led ?wkF ?wkN ?wkm ?wkz ?_; (case wkF => k_asm); (case wkN => k_asm); (case wkm => k_mem); (case wkz => first | assumption | (rw [sizeLine_eq]; simp only [List.size_toArray, List.length_map]; omega))); intro _ _ _ _ _ _ _)
  k_with "eval Lambda" => refine Held.mk ?_
  k_with "exec If Compare cons cons" => refine Held.mk ?_
  trivial
inductive TabIf (h₀ : Heap) (L Rl : Addr) (as : List Addr) (nR : Nat) (rest : List (Addr × Obj)) (rows : List (List Int)) (k : Nat) (a3 : Addr) (xs : List Int) (m : Str → Option Value) (s : Shared) (fl : Flow) (s' : Shared) : Prop
  | mk (e : fl = .next) (h' : Heap) (tk : Nat) (led : List (Addr × Obj)) (ws : List Value) (n : Nat) (es : s' = { s with heap := h', toks := tk }) (F : Fr h₀ L h' m) (N : News h₀ L h' led) (hm : (a3, listOf ws.toArray n) ∈ led)
    (hi : IntsAre ws xs) (S : TS Rl as nR rest led (rows.set k xs)) : TabIf h₀ L Rl as nR rest rows k a3 xs m s fl s'
theorem tab_join {M : Model} {A : Around} {E : Value → Shared → Prop} {s : Shared} {h₀ : Heap} {L Rl : Addr} {as : List Addr} {nR : Nat} {rest : List (Addr × Obj)} {rows : List (List Int)} {k : Nat} {a3 : Addr} {t : Sem Flow} {Q : Flow → Shared → Prop} {m : Str → Option Value} (xs : List Int)
    (_F : Fr h₀ L s.heap m) (walk : wpAny M A t (TabIf h₀ L Rl as nR rest rows k a3 xs m s) E s)
    (cont : ∀ h' tk led ws n, Fr h₀ L h' m → News h₀ L h' led → (a3, listOf ws.toArray n) ∈ led → IntsAre ws xs → TS Rl as nR rest led (rows.set k xs) → Q .next { s with heap := h', toks := tk }) : wpAny M A t Q E s :=
  wpAny_mono walk (fun _ _ ⟨e, h', tk, led, ws, n, es, F, N, hm, hi, S⟩ => e ▸ es ▸ cont h' tk led ws n F N hm hi S) fun _ _ h => h
inductive JT1 (Rl : Addr) (rest : List (Addr × Obj)) (b : Array UInt8) (i : Nat) (m : Str → Option Value) (led : List (Addr × Obj)) : Prop
  | mk (as : List Addr) (nR : Nat) (rows : List (List Int)) (S : TS Rl as nR rest led rows) (hr : rows = tableOf ((KBw.bInts b).take i)) (hm : Pins m [(Str.ofString "rows", .ref Rl)]) (hal : as.length ≤ 2 * i) (hrl : ∀ r ∈ rows, r.length ≤ 2 * i) : JT1 Rl rest b i m led
inductive JT2 (Rl : Addr) (rest : List (Addr × Obj)) (xs : List Int) (rows : List (List Int)) (n j : Nat) (m : Str → Option Value) (led : List (Addr × Obj)) : Prop
  | mk (as : List Addr) (nR : Nat) (rows3 : List (List Int)) (S : TS Rl as nR rest led rows3) (hr : rows3 = (xs.take j).foldl twinStep rows) (hm : Pins m [(Str.ofString "rows", .ref Rl)]) (hal : as.length ≤ n + j) (hrl : ∀ r ∈ rows3, r.length ≤ n + j) : JT2 Rl rest xs rows n j m led
inductive JT3 (Rl : Addr) (as : List Addr) (nR : Nat) (rest : List (Addr × Obj)) (rows3 : List (List Int)) (x : Int) (n k : Nat) (m : Str → Option Value) (led : List (Addr × Obj)) : Prop
  | mk (rows4 : List (List Int)) (mv : Int) (tmv : Tok) (S : TS Rl as nR rest led rows4) (hm : Pins m [(Str.ofString "moving", .int mv tmv), (Str.ofString "rows", .ref Rl)])
    (he : (rows4.take k ++ (bump (rows4.drop k) mv).1, (bump (rows4.drop k) mv).2) = bump rows3 x) (hrl : ∀ r ∈ rows4, r.length ≤ n) : JT3 Rl as nR rest rows3 x n k m led
section
variable {prog : Program} {w : World} {p : Program} {loose : List Str} {mean : ExcName → Option Value} {mg mb : Str → Option Value}
set_option maxHeartbeats 8000000 in
theorem tabC {dp un : Nat} {gd : Option (List Code)} {cn : Str} {cs : Scope} {a : Addr} {ccd : Value} {cl : List (Str × Addr)} {outer : List Env} {A₀ : Around} {base h₀ : Heap} {L : Addr} {m : Str → Option Value} {s : Shared} {Q E : Value → Shared → Prop} {news : List (Addr × Obj)} {b : Array UInt8} {tb : Tok} {rest : List (Addr × Obj)}
    (B : Below A₀ base outer h₀) (F : Fr h₀ L s.heap m) (X : (Mine.hd.heap_39 w.params).In h₀) (N : News h₀ L s.heap news) (T : Top p loose mean mg mb h₀) (hk : cs.kind = .function) (CH : CodeHd base 257 253)
    (hlam : Lam 253 lamQual lamPos (rest.map (·.1)) news) (hrest : ∀ p ∈ rest, p ∈ news) (hoff : ∀ p ∈ rest, p.1 ≠ 253) (hb : b.size < 1000) (hd : dp + 10 < recursionLimit) (hu : un + 80 < cLine)
    (hret : ∀ (h' : Heap) (tk' : Nat) (led' : List (Addr × Obj)) (Rl : Addr) (as : List Addr) (nR : Nat), Fr h₀ L h' m → News h₀ L h' led' → TS Rl as nR rest led' (tableOf (KBw.bInts b)) → as.length ≤ 2 * b.size → (∀ r ∈ tableOf (KBw.bInts b), r.length ≤ 2 * b.size) → Q (.ref Rl) { s with heap := h', toks := tk' }) :
    wpAny (model prog w) (ktrTop dp un gd cn cs L a ccd cl outer) (call (.ref 258) [.bytes b tb]) Q E s := by
  have mi : ∀ {c : UInt8}, 0 ≤ (c.toNat : Int) ∧ (c.toNat : Int) < 256 := fun {c} => ⟨by omega, by have := c.toNat_lt; omega⟩
  refine wpAny_call ?_
  k_dflt (refine' code_def ?k1 ?k2 ?k3 ?k4 ?k5 ?kA ?kF ?kK ?k6 ?k7 ?k8 ?k9 ?kB ?_ ?c2 ?c3 ?c4 ?c5; (case kA => exact rfl); (case kF => exact rfl); (case kK => first | assumption | exact rfl); (case k1 => k_asm); (case k2 => k_asm); (case k3 => k_asm); (case k4 => k_asm); (case k5 => k_asm); (case k6 => k_is); (case k7 => k_is); (case k8 => ktr_room); (case k9 => first | exact BindsTo.of_eq rfl | exact binds_K (by k_in) rfl (by k_is) rfl rfl rfl | (refine' kp_binds ?kx ?ke; (case kx => k_in); (case ke => exact fun _ => rfl)) | fail "x_enter: no rule for these arguments"); (case c5 => decide); (case kB => exact locs rfl); (case c2 => exact rfl); (case c3 => exact rfl); (case c4 => exact rfl); k_whole; intro g' L' h' FG' F' N' B' X' T'; (try dsimp only); (try k_lift B'); (try k_fold))
  k_steps
  rename_i Rl _ l1 _ F1 N1
  refine Held.out ?_
  refine iter_by (J := JT1 Rl rest b) rfl F1 N1 ?_ ?_ ?_
  · exact ⟨[], 0, [], TS.start hlam hrest hoff l1, by simp [tableOf], .cons rfl .nil, Nat.le_refl _, fun r h => nomatch h⟩
  · intro i c u m₁ led₁ h tk I ito hc hJ9 ho F2 N2
    obtain ⟨as, nR, rows, S, hrows, hmr, hal, hrl⟩ := hJ9
    clear F1 N1
    replace F2 : Fr g' L' h _ := fr_pins F2 (hmr.skip (.cons (by decide) .nil))
    replace N2 : News g' L' h ((I, ito) :: led₁) := N2
    have hc0 := @mi c
    k_steps
    rename_i l2 _ F3 N3 l3
    have ht3 : ∀ p ∈ (I, ito) :: led₁, p.1 < l2 := fun p hp => by
      rcases List.mem_cons.mp hp with rfl | hp
      · exact l3.1
      · exact ktn_ltOf l3.2 p hp
    obtain ⟨vs2, hv2, N4⟩ : ∃ vs2, IntsAre vs2 [2 * (c.toNat : Int), 2 * (c.toNat : Int) + 1] ∧ News g' L' _ ((l2, listOf vs2.toArray 0) :: (I, ito) :: led₁) := ⟨_, .cons _ _ (.cons _ _ .nil), N3⟩
    clear N3
    have S1 := (S.enter (ito := ito) ho).fresh (o := listOf vs2.toArray 0) ht3
    have hvl : vs2.length = 2 := hv2.length
    have hrI : ∀ p ∈ rest, p.1 ≠ I := fun p hp => ho p (S.keep p hp)
    have hrl2 : ∀ p ∈ (I, ito) :: rest, p.1 ≠ l2 := fun p hp => by
      rcases List.mem_cons.mp hp with rfl | hp
      · exact Nat.ne_of_lt (ht3 _ (.head _))
      · exact Nat.ne_of_lt (ht3 _ (.tail _ (S.keep _ hp)))
    refine Held.out ?_
    refine iter_led (J := JT2 Rl ((l2, listOf vs2.toArray 0) :: (I, ito) :: rest) [2 * (c.toNat : Int), 2 * (c.toNat : Int) + 1] rows (2 * i)) rfl F3 N4 (.head _) ?_ ?_ ?_ ?_
    · exact ⟨as, nR, rows, S1, rfl, .cons rfl .nil, by omega, fun r hr => by have := hrl r hr; omega⟩
    · rintro j m led ⟨as, nR, rows3, S, _⟩
      exact S.keep _ (.head _)
    · clear S S1 hal hrl hmr ho F3 N4 ht3 l3
      intro j v m₂ led₂ h tk I2 ito2 hv hJ9 ho F2 N2
      obtain ⟨as, nR, rows3, S, hrows3, hmr, hal, hrl⟩ := hJ9
      obtain ⟨x, hx, tx, rfl⟩ : ∃ x, [2 * (c.toNat : Int), 2 * (c.toNat : Int) + 1][j]? = some x ∧ ∃ tx, v = .int x tx := by
        cases hxj : [2 * (c.toNat : Int), 2 * (c.toNat : Int) + 1][j]? with
        | none =>
          have := List.getElem?_eq_none_iff.mp hxj
          rw [List.getElem?_eq_none (by rw [hvl]; simpa using this)] at hv
          cases hv
        | some x =>
          obtain ⟨t, ht⟩ := hv2.get j x hxj
          rw [ht] at hv
          cases hv
          exact ⟨x, rfl, t, rfl⟩
      replace F2 : Fr g' L' h _ := fr_pins F2 (hmr.skip (.cons (by decide) .nil))
      replace N2 : News g' L' h ((I2, ito2) :: led₂) := N2
      have hib : i < b.size := (Array.getElem?_eq_some_iff.mp hc).1
      have hj2 : j < 2 := by
        have := (List.getElem?_eq_some_iff.mp hx).1
        simpa using this
      have hx2 : ([2 * (c.toNat : Int), 2 * (c.toNat : Int) + 1].take (j + 1)).foldl twinStep rows = twinStep rows3 x := by
        rw [List.take_add_one, hx, List.foldl_append, ← hrows3]; rfl
      k_steps
      rename Fr _ _ _ _ => F3
      rename News _ _ _ _ => N3
      have S2 := S.enter (ito := ito2) ho
      refine Held.out ?_
      refine iter_led (J := JT3 Rl as nR ((I2, ito2) :: (l2, listOf vs2.toArray 0) :: (I, ito) :: rest) rows3 x (2 * i + j)) rfl F3 N3 S2.mem ?_ ?_ ?_ ?_
      · exact ⟨rows3, x, tx, S2, .cons rfl (.cons rfl .nil), by simp, hrl⟩
      · rintro k m led ⟨rows4, mv, tmv, S, _⟩
        exact S.mem
      · clear S2 F3 N3
        intro k v m₃ led₃ h tk I3 ito3 hv3 hJ9 ho3 F3 N3
        obtain ⟨rows4, mv, tmv, S3, hmv, heq, hrl4⟩ := hJ9
        obtain ⟨a3, ha3, rfl⟩ : ∃ a3, as[k]? = some a3 ∧ v = .ref a3 := by
          rw [List.getElem?_map] at hv3
          cases hq : as[k]? with
          | none => rw [hq] at hv3; cases hv3
          | some a3 => rw [hq] at hv3; exact ⟨a3, rfl, (Option.some.inj hv3).symm⟩
        obtain ⟨ns, ws, n, hns, hma, hia⟩ := S3.rows.get ha3
        have S4 := S3.enter (ito := ito3) ho3
        have hr3 : ∀ p ∈ (I2, ito2) :: (l2, listOf vs2.toArray 0) :: (I, ito) :: rest, p.1 ≠ I3 := fun p hp => ho3 p (S3.keep p hp)
        have hr2 : ∀ p ∈ (l2, listOf vs2.toArray 0) :: (I, ito) :: rest, p.1 ≠ I2 := fun p hp => ho p (S.keep p hp)
        have hma' : (a3, listOf ws.toArray n) ∈ (I3, ito3) :: led₃ := .tail _ hma
        have hnl : ns.length < 2 ^ 20 := by have := hrl4 ns (List.mem_of_getElem? hns); omega
        replace F3 : Fr g' L' h _ := fr_pins F3 (hmv.skip (.cons (by decide) (.cons (by decide) .nil)))
        replace N3 : News g' L' h ((I3, ito3) :: led₃) := N3
        k_steps
        refine Held.out ?_
        refine tab_join (Rl := Rl) (as := as) (nR := nR) (rest := (I3, ito3) :: (I2, ito2) :: (l2, listOf vs2.toArray 0) :: (I, ito) :: rest) (rows := rows4) (k := k) (a3 := a3) (insI (fOf mv) ns mv) F3 ?walk ?cont
        case walk =>
         refine wpAny_If ?_
         k_steps
         · rename (Int.fmod mv 2 = 0) => hev
           refine Held.out (insS B' F3 X' N3 T' rfl hma' hia hnl (by ktr_room) (by ktr_units) ?_)
           intro h9 tk9 led9 ws9 F9 N9 hm9 hi9 hk9 ha9
           have S9 := S4.set ha3 hk9 hm9 hi9
           k_steps
           exact ⟨rfl, _, _, _, _, _, rfl, by k_asm, by k_asm, hm9, by rw [fOf_even hev]; exact hi9, by rw [fOf_even hev]; exact S9⟩
         · rename (¬ Int.fmod mv 2 = 0) => hev
           have h253 := (List.nodup_cons.mp S4.nd).1
           have ha253 : a3 ≠ 253 := fun e => h253 (by rw [← e]; exact .tail _ (List.mem_of_getElem? ha3))
           refine Held.out ?_
           k_dflt (refine lamS (P := 253) (c := 257) (pos := lamPos) F3 N3 T' (CodeHd.keeps CH (Below.stays B')) rfl S4.lam S4.bad rfl rfl ?_)
           intro f8 c8 oc8 vs8 t8 ctv8 h8 tk8 led8 F8 N8 hf8 hc8 hd8 hv8 hp8 hk8 hl8 hcP hcb
           have S7 := S4.lamd hk8 hp8 hc8 hd8 hv8 hcP hcb
           have hma8 := hk8 _ hma' ha253
           have hfa : f8 ≠ a3 := Nat.ne_of_gt (hl8 _ hma')
           have hca : c8 ≠ a3 := hcb _ (List.mem_append_left _ (.tail _ (List.mem_of_getElem? ha3)))
           k_steps
           refine Held.out ?_
           with_unfolding_all refine insSK (g := fK) B' F8 X' N8 T' rfl ?kC hf8 hfa hma8 hia hnl (by ktr_room) (by ktr_units) ?_
           case kC =>
             intro led hkl
             have hfl := hkl _ hf8 hfa
             have hcl := hkl _ hc8 hca
             unfold KeyOk
             intro dp un gd cn cs a ccd cl outer A₀ base h₀ L m s Q E v tv B F X N T hk hd hu hret
             refine wpAny_call ?_
             k_dflt (refine' kla_code ?k1 ?k2 ?k3 ?k4 ?k5 ?kA ?kF ?kK ?k6 ?k7 ?k8 ?k9 ?kB ?_ ?c2 ?c3 ?c4 ?c5; (case kA => exact rfl); (case kF => exact rfl); (case kK => first | assumption | exact rfl); (case k1 => k_asm); (case k2 => k_asm); (case k3 => k_asm); (case k4 => k_asm); (case k5 => k_asm); (case k6 => assumption); (case k7 => exact codeRec_news (by k_asm) (by assumption) (by assumption) (by assumption)); (case k8 => ktr_room); (case k9 => exact rfl); (case c5 => decide); (case kB => exact locs rfl); (case c2 => exact rfl); (case c3 => exact rfl); (case c4 => exact rfl); k_whole; intro g5 L5 h5 FG5 F5 N5 B5 X5 T5; (try dsimp only); (try k_fold))
             k_steps
             exact hret _ _ _ (by k_asm) (by k_asm)
           intro h9 tk9 led9 ws9 F9 N9 hm9 hi9 hk9 ha9
           have S9 := S7.set ha3 hk9 hm9 hi9
           k_steps
           exact ⟨rfl, _, _, _, _, _, rfl, by k_asm, by k_asm, hm9, by rw [fOf_odd hev]; exact hi9, by rw [fOf_odd hev]; exact S9⟩
        case cont =>
          intro h9 tk9 led9 ws9 n9 F9 N9 hm9 hi9 S9
          clear N3 F3
          have hl9 : (insI (fOf mv) ns mv).length < 2 ^ 20 := by rw [insI_length]; have := hrl4 ns (List.mem_of_getElem? hns); omega
          have hlL : (insI (fOf mv) ns mv).length = ns.length + 1 := insI_length ..
          have hx9 : (insI (fOf mv) ns mv).idxOf mv < (insI (fOf mv) ns mv).length := List.idxOf_lt_length_of_mem (insI_mem ..)
          have hn0 := hrl4 ns (List.mem_of_getElem? hns)
          k_steps
          · rename ((_ : Int) + 1 = _) => hend
            rename Fr _ _ _ _ => F10
            rename News _ _ _ _ => N10
            obtain ⟨_, _, _, S5, N5⟩ := S9.endOf N10 hr3
            obtain ⟨led6, N6, ho6, S6, _⟩ := S5.endOf N5 hr2
            refine TEnd.mk' F10 N6 ho6 ⟨as, nR, _, S6, (hx2.trans (bump_brk hns heq (rowStep_end rfl hend))).symm, .cons rfl .nil, by omega, fun r hr => ?_⟩
            rcases List.mem_or_eq_of_mem_set hr with h | h
            · have := hrl4 r h; omega
            · rw [h, hlL]; omega
          · rename (¬ (_ : Int) + 1 = _) => hend
            rename Fr _ _ _ _ => F10
            rename News _ _ _ _ => N10
            have S10 := S9.set ha3 (by assumption) (by assumption) (by assumption)
            rw [List.set_set] at S10
            obtain ⟨led6, N6, ho6, S6, _⟩ := S10.endOf N10 hr3
            refine TEnd.mk' F10 N6 ho6 ⟨_, _, _, S6, .cons rfl (.cons rfl .nil), bump_next hns heq (rowStep_go rfl hend), fun r hr => ?_⟩
            rcases List.mem_or_eq_of_mem_set hr with h | h
            · exact hrl4 r h
            · rw [h, List.length_eraseIdx]; split <;> omega
      · clear S2 F3 N3
        intro m₄ led₄ h tk hJ9 F3 N3
        obtain ⟨rows4, mv, tmv, S3, hmv, heq, hrl4⟩ := hJ9
        have hr2 : ∀ p ∈ (l2, listOf vs2.toArray 0) :: (I, ito) :: rest, p.1 ≠ I2 := fun p hp => ho p (S.keep p hp)
        have hlen := S3.rows.len
        have hdone := bump_done (by rw [List.length_map]; exact hlen) heq
        have hRm := S3.mem
        replace F3 : Fr g' L' h _ := fr_pins F3 hmv
        replace N3 : News g' L' h led₄ := N3
        k_steps
        · rename (_ : Int) ≤ _ => hge
          obtain ⟨a5, led6, l5, hm6, hk6, N10⟩ : ∃ a5 led6, (∀ p ∈ led₄, p.1 < a5) ∧ (Rl, listOf ((List.map Value.ref as).toArray.push (Value.ref a5)) (nR + 1)) ∈ led6 ∧ (∀ p ∈ (a5, listOf #[Value.int mv tmv] 0) :: led₄, p.1 ≠ Rl → p ∈ led6) ∧ News g' L' _ led6 := ⟨_, _, by assumption, by assumption, by assumption, by assumption⟩
          have hne : a5 ≠ Rl := Nat.ne_of_gt (l5 _ hRm)
          have S6 := S3.app (a := a5) (n' := nR + 1) (led' := led6) (fun p hp => Nat.ne_of_lt (l5 p hp)) (fun p hp hn => hk6 p (.tail _ hp) hn) (by simpa using hm6) (hk6 _ (.head _) hne) (.cons mv tmv .nil)
          rename Fr _ _ _ _ => F10
          rw [if_pos hge] at hdone
          obtain ⟨led7, N7, ho7, S7, _⟩ := S6.endOf N10 hr2
          refine TEnd.mk' F10 N7 ho7 ⟨as ++ [a5], nR + 1, _, S7, (hx2.trans hdone).symm, .cons rfl .nil, by rw [List.length_append, List.length_singleton]; omega, fun r hr => ?_⟩
          rcases List.mem_append.mp hr with h | h
          · have := hrl4 r h; omega
          · rw [List.mem_singleton.mp h]
            show 1 ≤ _
            omega
        · rename ¬ (_ : Int) ≤ _ => hge
          rename Fr _ _ _ _ => F10
          rename News _ _ _ _ => N10
          rw [if_neg hge] at hdone
          obtain ⟨led6, N6, ho6, S6, _⟩ := S3.endOf N10 hr2
          refine TEnd.mk' F10 N6 ho6 ⟨as, nR, _, S6, (hx2.trans hdone).symm, .cons rfl .nil, by omega, fun r hr => by have := hrl4 r hr; omega⟩
    · intro m₃ led₃ h tk hJ9 F3 N3
      obtain ⟨as, nR, rows3, S, hrows3, hmr, hal, hrl⟩ := hJ9
      replace F3 : Fr g' L' h _ := fr_pins F3 hmr
      replace N3 : News g' L' h led₃ := N3
      rw [hvl] at hrows3 hal hrl
      k_steps
      rename Fr _ _ _ _ => F10
      rename News _ _ _ _ => N10
      obtain ⟨_, _, _, S5, N5⟩ := S.endOf N10 hrl2
      obtain ⟨led6, N6, ho6, S6, _⟩ := S5.endOf N5 hrI
      refine TEnd.mk' F10 N6 ho6 ⟨as, nR, rows3, S6, ?_, .cons rfl .nil, by omega, fun r hr => by have := hrl r hr; omega⟩
      have e2 : (KBw.bInts b).take (i + 1) = (KBw.bInts b).take i ++ [(c.toNat : Int)] := by rw [List.take_add_one, KBw.ints_get hc]; rfl
      rw [hrows3, e2, hrows]
      unfold tableOf
      rw [List.foldl_append]
      rfl
  · intro m₁ led₁ h tk hJ9 F2 N2
    obtain ⟨as, nR, rows, S, hrows, hmr, hal, hrl⟩ := hJ9
    replace F2 : Fr g' L' h _ := fr_pins F2 hmr
    replace N2 : News g' L' h led₁ := N2
    have e : (KBw.bInts b).take b.size = KBw.bInts b := List.take_of_length_le (by rw [KBw.ints_length]; exact Nat.le_refl _)
    rw [e] at hrows
    subst hrows
    k_steps
    exact hret _ _ _ _ _ _ (by k_asm) (by k_asm) S hal hrl
end
end XTable
section XRules2
set_option maxRecDepth 100000

example : True := by
  k_with_none
  trivial

noncomputable def insD (x : Int) : List Int → List Int
  | [] => [x]
  | y :: r => if y ≤ x then x :: y :: r else y :: insD x r
noncomputable def sortD : List Int → List Int
  | [] => []
  | x :: r => insD x (sortD r)
noncomputable def insA (x : Int) : List Int → List Int
  | [] => [x]
  | y :: r => if x ≤ y then x :: y :: r else y :: insA x r
noncomputable def sortA : List Int → List Int
  | [] => []
  | x :: r => insA x (sortA r)
theorem insD_perm (x : Int) : ∀ l : List Int, (insD x l).Perm (x :: l)
  | [] => .refl _
  | y :: r => by
    unfold insD
    split
    · exact .refl _
    · exact ((insD_perm x r).cons y).trans (.swap ..)
theorem sortD_perm : ∀ l : List Int, (sortD l).Perm l
  | [] => .refl _
  | x :: r => (insD_perm x _).trans ((sortD_perm r).cons x)
theorem insA_perm (x : Int) : ∀ l : List Int, (insA x l).Perm (x :: l)
  | [] => .refl _
  | y :: r => by
    unfold insA
    split
    · exact .refl _
    · exact ((insA_perm x r).cons y).trans (.swap ..)
theorem sortA_perm : ∀ l : List Int, (sortA l).Perm l
  | [] => .refl _
  | x :: r => (insA_perm x _).trans ((sortA_perm r).cons x)
theorem insD_falls (x : Int) : ∀ l : List Int, l.Pairwise (fun x y => y ≤ x) → (insD x l).Pairwise (fun x y => y ≤ x)
  | [], _ => by simp [insD]
  | y :: r, h => by
    obtain ⟨h1, h2⟩ := List.pairwise_cons.mp h
    unfold insD
    split
    · rename_i hy
      refine List.pairwise_cons.mpr ⟨fun z hz => ?_, h⟩
      rcases List.mem_cons.mp hz with rfl | hz
      · exact hy
      · have := h1 z hz; omega
    · refine List.pairwise_cons.mpr ⟨fun z hz => ?_, insD_falls x r h2⟩
      rcases List.mem_cons.mp ((insD_perm x r).mem_iff.mp hz) with rfl | hz
      · omega
      · exact h1 z hz
theorem sortD_falls : ∀ l : List Int, (sortD l).Pairwise (fun x y => y ≤ x)
  | [] => .nil
  | x :: r => insD_falls x _ (sortD_falls r)
theorem insA_rises (x : Int) : ∀ l : List Int, l.Pairwise (fun x y => x ≤ y) → (insA x l).Pairwise (fun x y => x ≤ y)
  | [], _ => by simp [insA]
  | y :: r, h => by
    obtain ⟨h1, h2⟩ := List.pairwise_cons.mp h
    unfold insA
    split
    · rename_i hy
      refine List.pairwise_cons.mpr ⟨fun z hz => ?_, h⟩
      rcases List.mem_cons.mp hz with rfl | hz
      · exact hy
      · have := h1 z hz; omega
    · refine List.pairwise_cons.mpr ⟨fun z hz => ?_, insA_rises x r h2⟩
      rcases List.mem_cons.mp ((insA_perm x r).mem_iff.mp hz) with rfl | hz
      · omega
      · exact h1 z hz
theorem sortA_rises : ∀ l : List Int, (sortA l).Pairwise (fun x y => x ≤ y)
  | [] => .nil
  | x :: r => insA_rises x _ (sortA_rises r)
theorem sortD_one {l r : List Int} (p : r.Perm l) (h : r.Pairwise (fun x y => y ≤ x)) : r = sortD l :=
  List.Perm.eq_of_pairwise (le := fun x y => y ≤ x) (fun _ _ _ _ a b => Int.le_antisymm b a) h (sortD_falls l) (p.trans (sortD_perm l).symm)
theorem sortA_one {l r : List Int} (p : r.Perm l) (h : r.Pairwise (fun x y => x ≤ y)) : r = sortA l :=
  List.Perm.eq_of_pairwise (le := fun x y => x ≤ y) (fun _ _ _ _ a b => Int.le_antisymm a b) h (sortA_rises l) (p.trans (sortA_perm l).symm)
theorem sortD_length (l : List Int) : (sortD l).length = l.length := (sortD_perm l).length_eq
theorem sortA_length (l : List Int) : (sortA l).length = l.length := (sortA_perm l).length_eq
section
variable {prog : Program} {w : World} {A : Around} {E : Value → Shared → Prop} {s : Shared} {h₀ : Heap} {L D : Addr} {m : Str → Option Value} {news : List (Addr × Obj)} {n : Nat} {ws : List Value} {ns : List Int}
theorem sortD_led {Q : Value → Shared → Prop} (F : Fr h₀ L s.heap m) (N : News h₀ L s.heap news) (hm : (D, listOf ws.toArray n) ∈ news) (hi : IntsAre ws ns) (h64 : ns.length < 64)
    (h : ∀ D' ws' c h', Fr h₀ L h' m → News h₀ L h' ((D', listOf ws'.toArray c) :: news) → (∀ q ∈ news, q.1 < D') → IntsAre ws' (sortD ns) → Q (.ref D') { s with heap := h' }) :
    wpAny (model prog w) A (call (.builtin "sorted") [.ref D] [(Str.ofString "reverse", .bool true)]) Q E s :=
  ksk_rev F N (N.isList hm) hi h64 fun D' vs' ns' c h' F' N' hl hi' _ p o _ => by
    have e := sortD_one p (by simpa using o)
    subst e
    exact h D' vs' c h' F' N' hl hi'
theorem sortA_led {Q : Value → Shared → Prop} (F : Fr h₀ L s.heap m) (N : News h₀ L s.heap news) (hm : (D, listOf ws.toArray n) ∈ news) (hi : IntsAre ws ns) (h64 : ns.length < 64)
    (h : ∀ D' ws' c h', Fr h₀ L h' m → News h₀ L h' ((D', listOf ws'.toArray c) :: news) → (∀ q ∈ news, q.1 < D') → IntsAre ws' (sortA ns) → Q (.ref D') { s with heap := h' }) :
    wpAny (model prog w) A (call (.builtin "sorted") [.ref D]) Q E s :=
  kso_sorted F N (N.isList hm) hi h64 fun D' vs' ns' c h' F' N' hl hi' _ p o _ => by
    have e := sortA_one p o
    subst e
    exact h D' vs' c h' F' N' hl hi'
theorem anyInt_of (hi : IntsAre ws ns) (x : Int) : ws.any (isInt x) = decide (x ∈ ns) := by
  induction hi with
  | nil => simp
  | @cons k t vs r _ ih =>
    rw [List.any_cons, ih]
    by_cases h : k = x
    · subst h; simp [isInt]
    · have : ¬ x = k := fun e => h e.symm
      simp [isInt, h, this]
theorem notin_led {x : Int} {t : Tok} {Q : Value → Shared → Prop} (N : News h₀ L s.heap news) (hm : (D, listOf ws.toArray n) ∈ news) (hi : IntsAre ws ns) (h : Q (.bool (decide (x ∉ ns))) s) :
    wpAny (model prog w) A (compareOp .NotIn (.int x t) (.ref D)) Q E s :=
  kf_notin (its := ws.toArray) N hm (kfInts_of hi) (by rw [show ws.toArray.toList = ws from rfl, anyInt_of hi]; simp) h
theorem set_led {k x : Int} {t u : Tok} {Q : Unit → Shared → Prop} (F : Fr h₀ L s.heap m) (N : News h₀ L s.heap news) (hm : (D, listOf ws.toArray n) ∈ news) (hi : IntsAre ws ns) (h0 : 0 ≤ k) (h1 : k < ns.length) (hz : ns.length < 2 ^ 20)
    (h : ∀ h' led' ws', Fr h₀ L h' m → News h₀ L h' led' → (D, listOf ws'.toArray n) ∈ led' → IntsAre ws' (ns.set k.toNat x) → (∀ p ∈ news, p.1 ≠ D → p ∈ led') → (∀ p ∈ led', ∃ q ∈ news, q.1 = p.1) → Q () { s with heap := h' }) :
    wpAny (model prog w) A (setItem (.ref D) (.int k t) (.int x u)) Q E s :=
  ksa_set F (news_turnTo N hm) upd_turnTo hi h0 h1 (by omega) fun h' F' N' _ _ _ => h h' _ _ F' N' turnTo_new (ints_set hi _) (fun p hp hn => turnTo_old hp hn) (fun p hp => turnTo_addr hm hp)
theorem append_ws {x : Value} {Q : Value → Shared → Prop} (F : Fr h₀ L s.heap m) (N : News h₀ L s.heap news) (hm : (D, listOf ws.toArray n) ∈ news) (hz : ws.length < 2 ^ 20)
    (h : ∀ h' led', Fr h₀ L h' m → News h₀ L h' led' → (D, listOf (ws ++ [x]).toArray (n + 1)) ∈ led' → (∀ p ∈ news, p.1 ≠ D → p ∈ led') → (∀ p ∈ led', ∃ q ∈ news, q.1 = p.1) → Q .none { s with heap := h' }) :
    wpAny (model prog w) A (call (.builtin "list.append") [.ref D, x]) Q E s :=
  append_led F N hm (by rw [sizeLine_eq, List.size_toArray]; omega) fun h' led' F' N' hm' => h h' led' F' N' (by rw [List.push_toArray] at hm'; exact hm')
end
end XRules2
section XWays
set_option maxRecDepth 100000

example : True := by
  k_with_none
  trivial

example : True := by
  k_with "exec For Name Name cons nil" => (k_here; (with_unfolding_all refine' For_invVF ?wkkF ?wkk1 ?wkk2 ?_; (case wkkF => k_asm); (case wkk1 => exact rfl); (case wkk2 => exact rfl); k_whole))
  k_with "exec For Name List cons nil" => (k_here; (with_unfolding_all refine' For_invVF ?wkkF ?wkk1 ?wkk2 ?_; (case wkkF => k_asm); (case wkk1 => exact rfl); (case wkk2 => exact rfl); k_whole))
  k_with "exec For Name Call cons nil" => (k_here; (with_unfolding_all refine' For_invVF ?wkkF ?wkk1 ?wkk2 ?_; (case wkkF => k_asm); (case wkk1 => exact rfl); (case wkk2 => exact rfl); k_whole))
  k_with "exec For Name Subscript cons nil" => (k_here; (with_unfolding_all refine' For_invVF ?wkkF ?wkk1 ?wkk2 ?_; (case wkkF => k_asm); (case wkk1 => exact rfl); (case wkk2 => exact rfl); k_whole))
  k_with "pyIter ref" => refine Held.mk ?_
  k_with "pyIter bytes" => refine Held.mk ?_
  k_with "call ref" => refine Held.mk ?_
  k_with "TPost" => dsimp only [TPost]
  k_with "call builtin:list.append" => (k_here; k_dflt (refine' append_ws ?wkF ?wkN ?wkm ?wkz ?_; (case wkF => k_asm); (case wkN => k_asm); (case wkm => k_mem); (case wkz => first | assumption | omega)); intro _ _ _ _ _ _ _)
  k_with "call builtin:sorted" => (k_here; with_unfolding_all (refine' sortD_led ?wkF ?wkN ?wkm ?wki ?wkz ?_; (case wkF => k_asm); (case wkN => k_asm); (case wkm => k_mem); (case wki => assumption); (case wkz => first | assumption | omega)); intro _ _ _ _ _ _ _ _)
  k_with "compareOp NotIn" => (k_here; k_dflt (refine' notin_led ?wkN ?wkm ?wki ?_; (case wkN => k_asm); (case wkm => k_mem); (case wki => assumption)))
  k_with "setItem ref int" => (k_here; k_dflt (refine' set_led ?wkF ?wkN ?wkm ?wki ?wka ?wkb ?wkz ?_; (case wkF => k_asm); (case wkN => k_asm); (case wkm => k_mem); (case wki => assumption); (case wka => omega); (case wkb => omega); (case wkz => omega)); intro _ _ _ _ _ _ _ _ _)
  trivial
noncomputable def wayStep (ps ns : List Int) (st : List Int × List Int) (node : Int) : List Int × List Int :=
  let height := st.1.getD node.toNat 0 + 1
  let over := ps.getD node.toNat 0
  if over ∉ ns then (st.1, st.2 ++ [height])
  else if st.1.getD over.toNat 0 = 0 then (st.1.set over.toNat height, st.2)
  else (st.1.set over.toNat (if st.1.getD over.toNat 0 > height then st.1.getD over.toNat 0 else height), st.2 ++ [if st.1.getD over.toNat 0 < height then st.1.getD over.toNat 0 else height])
noncomputable def waysOf (ps ns : List Int) : List Int := sortD ((sortD ns).foldl (wayStep ps ns) (List.replicate ps.length 0, [])).2
structure WS (Dt lw : Addr) (rest led : List (Addr × Obj)) (tl wl : List Int) : Prop where
  tall : ∃ wt nt, (Dt, listOf wt.toArray nt) ∈ led ∧ IntsAre wt tl
  ways : ∃ ww nw, (lw, listOf ww.toArray nw) ∈ led ∧ IntsAre ww wl
  keep : ∀ p ∈ rest, p ∈ led
  ne : Dt ≠ lw
  off : ∀ p ∈ rest, p.1 ≠ Dt ∧ p.1 ≠ lw
section
variable {Dt lw : Addr} {rest led led' : List (Addr × Obj)} {tl wl : List Int}
theorem WS.grow (S : WS Dt lw rest led tl wl) (hk : ∀ p ∈ led, p ∈ led') : WS Dt lw rest led' tl wl := by
  obtain ⟨⟨wt, nt, h1, h2⟩, ⟨ww, nw, h3, h4⟩, h5, h6, h7⟩ := S
  exact ⟨⟨wt, nt, hk _ h1, h2⟩, ⟨ww, nw, hk _ h3, h4⟩, fun p hp => hk _ (h5 p hp), h6, h7⟩
theorem WS.setT (S : WS Dt lw rest led tl wl) (hk : ∀ p ∈ led, p.1 ≠ Dt → p ∈ led') {wt : List Value} {nt : Nat} {tl' : List Int} (hm : (Dt, listOf wt.toArray nt) ∈ led') (hi : IntsAre wt tl') : WS Dt lw rest led' tl' wl := by
  obtain ⟨⟨_, _, h1, h2⟩, ⟨ww, nw, h3, h4⟩, h5, h6, h7⟩ := S
  exact ⟨⟨wt, nt, hm, hi⟩, ⟨ww, nw, hk _ h3 (Ne.symm h6), h4⟩, fun p hp => hk _ (h5 p hp) (h7 p hp).1, h6, h7⟩
theorem WS.setW (S : WS Dt lw rest led tl wl) (hk : ∀ p ∈ led, p.1 ≠ lw → p ∈ led') {ww : List Value} {nw : Nat} {wl' : List Int} (hm : (lw, listOf ww.toArray nw) ∈ led') (hi : IntsAre ww wl') : WS Dt lw rest led' tl wl' := by
  obtain ⟨⟨wt, nt, h1, h2⟩, ⟨_, _, h3, h4⟩, h5, h6, h7⟩ := S
  exact ⟨⟨wt, nt, hk _ h1 h6, h2⟩, ⟨ww, nw, hm, hi⟩, fun p hp => hk _ (h5 p hp) (h7 p hp).2, h6, h7⟩
theorem WS.endOf {h₀ h : Heap} {L I : Addr} {ito : Obj} (S : WS Dt lw ((I, ito) :: rest) led tl wl) (N : News h₀ L h led) (hr : ∀ p ∈ rest, p.1 ≠ I) :
    ∃ led'', News h₀ L h ((I, ito) :: led'') ∧ (∀ p ∈ led'', p.1 ≠ I) ∧ WS Dt lw rest led'' tl wl := by
  obtain ⟨⟨wt, nt, h1, h2⟩, ⟨ww, nw, h3, h4⟩, h5, h6, h7⟩ := S
  have f : ∀ p ∈ led, p.1 ≠ I → p ∈ led.filter fun p => p.1 != I := fun p hp hn => List.mem_filter.mpr ⟨hp, by simpa using hn⟩
  have hI := h7 _ (.head _)
  refine ⟨led.filter fun p => p.1 != I, fun p hp => ?_, fun p hp => by simpa using (List.mem_filter.mp hp).2, ⟨wt, nt, f _ h1 (Ne.symm hI.1), h2⟩, ⟨ww, nw, f _ h3 (Ne.symm hI.2), h4⟩, fun p hp => f _ (h5 p (.tail _ hp)) (hr p hp), h6, fun p hp => h7 p (.tail _ hp)⟩
  rcases List.mem_cons.mp hp with rfl | hp
  · exact N _ (h5 _ (.head _))
  · exact N _ (List.mem_filter.mp hp).1
theorem WS.enter (S : WS Dt lw rest led tl wl) {I : Addr} {ito : Obj} (ho : ∀ p ∈ led, p.1 ≠ I) : WS Dt lw ((I, ito) :: rest) ((I, ito) :: led) tl wl := by
  obtain ⟨⟨wt, nt, h1, h2⟩, ⟨ww, nw, h3, h4⟩, h5, h6, h7⟩ := S
  refine ⟨⟨wt, nt, .tail _ h1, h2⟩, ⟨ww, nw, .tail _ h3, h4⟩, fun p hp => ?_, h6, fun p hp => ?_⟩
  · rcases List.mem_cons.mp hp with rfl | hp
    · exact .head _
    · exact .tail _ (h5 p hp)
  · rcases List.mem_cons.mp hp with rfl | hp
    · exact ⟨Ne.symm (ho _ h1), Ne.symm (ho _ h3)⟩
    · exact h7 p hp
end
theorem wayStep_len (ps ns : List Int) (st : List Int × List Int) (node : Int) : (wayStep ps ns st node).1.length = st.1.length ∧ (wayStep ps ns st node).2.length ≤ st.2.length + 1 := by
  unfold wayStep
  dsimp only
  split
  · simp
  · split <;> simp
theorem wayFold_len (ps ns : List Int) : ∀ (l : List Int) (st : List Int × List Int), (l.foldl (wayStep ps ns) st).1.length = st.1.length ∧ (l.foldl (wayStep ps ns) st).2.length ≤ st.2.length + l.length
  | [], st => by simp
  | x :: r, st => by
    have h1 := wayStep_len ps ns st x
    have h2 := wayFold_len ps ns r (wayStep ps ns st x)
    rw [List.foldl_cons, List.length_cons]
    omega
inductive JW (Dt lw lp ln : Addr) (rest : List (Addr × Obj)) (ps ns : List Int) (i : Nat) (m : Str → Option Value) (led : List (Addr × Obj)) : Prop
  | mk (tl wl : List Int) (S : WS Dt lw rest led tl wl) (hs : (tl, wl) = ((sortD ns).take i).foldl (wayStep ps ns) (List.replicate ps.length 0, [])) (hm : Pins m [(Str.ofString "tall", .ref Dt), (Str.ofString "ways", .ref lw), (Str.ofString "parents", .ref lp), (Str.ofString "nodes", .ref ln)]) : JW Dt lw lp ln rest ps ns i m led
section
variable {prog : Program} {w : World} {p : Program} {loose : List Str} {mean : ExcName → Option Value} {mg mb : Str → Option Value}
set_option maxHeartbeats 8000000 in
theorem waysC {dp un : Nat} {gd : Option (List Code)} {cn : Str} {cs : Scope} {a : Addr} {ccd : Value} {cl : List (Str × Addr)} {outer : List Env} {A₀ : Around} {base h₀ : Heap} {L : Addr} {m : Str → Option Value} {s : Shared} {Q E : Value → Shared → Prop} {news : List (Addr × Obj)} {lp ln : Addr} {wp wn : List Value} {np nn : Nat} {ps ns : List Int}
    (B : Below A₀ base outer h₀) (F : Fr h₀ L s.heap m) (X : (Mine.hd.heap_39 w.params).In h₀) (N : News h₀ L s.heap news) (T : Top p loose mean mg mb h₀) (hk : cs.kind = .function)
    (hmp : (lp, listOf wp.toArray np) ∈ news) (hip : IntsAre wp ps) (hmn : (ln, listOf wn.toArray nn) ∈ news) (hin : IntsAre wn ns) (hlp : ps.length < 1000) (hln : ns.length < 64)
    (hps : ∀ p ∈ ps, 0 ≤ p ∧ p < ps.length) (hns : ∀ n ∈ ns, 0 ≤ n ∧ n < ps.length)
    (hd : dp + 10 < recursionLimit) (hu : un + 80 < cLine)
    (hret : ∀ (h' : Heap) (tk' : Nat) (led' : List (Addr × Obj)) (D : Addr) (ws : List Value) (c : Nat), Fr h₀ L h' m → News h₀ L h' led' → (D, listOf ws.toArray c) ∈ led' → IntsAre ws (waysOf ps ns) → (∀ p ∈ news, p ∈ led') → (∀ p ∈ news, p.1 < D) → Q (.ref D) { s with heap := h', toks := tk' }) :
    wpAny (model prog w) (ktrTop dp un gd cn cs L a ccd cl outer) (call (.ref 265) [.ref lp, .ref ln]) Q E s := by
  refine wpAny_call ?_
  k_dflt (refine' code_def ?k1 ?k2 ?k3 ?k4 ?k5 ?kA ?kF ?kK ?k6 ?k7 ?k8 ?k9 ?kB ?_ ?c2 ?c3 ?c4 ?c5; (case kA => exact rfl); (case kF => exact rfl); (case kK => first | assumption | exact rfl); (case k1 => k_asm); (case k2 => k_asm); (case k3 => k_asm); (case k4 => k_asm); (case k5 => k_asm); (case k6 => k_is); (case k7 => k_is); (case k8 => ktr_room); (case k9 => first | exact BindsTo.of_eq rfl | exact binds_K (by k_in) rfl (by k_is) rfl rfl rfl | (refine' kp_binds ?kx ?ke; (case kx => k_in); (case ke => exact fun _ => rfl)) | fail "x_enter: no rule for these arguments"); (case c5 => decide); (case kB => exact locs rfl); (case c2 => exact rfl); (case c3 => exact rfl); (case c4 => exact rfl); k_whole; intro g' L' h' FG' F' N' B' X' T'; (try dsimp only); (try k_lift B'); (try k_fold))
  k_steps
  rename_i l0 _ l0l Dt _ hi1 n1 _ e1 _ e3 lDt _ lw _ l1w _ _ _ Ds wss c _ F1 N1 lDs hiS
  obtain ⟨wt0, o0, hit0, N2⟩ : ∃ wt0 o0, IntsAre wt0 (List.replicate ps.length 0) ∧ News g' L' _ ((Ds, listOf wss.toArray c) :: (lw, listOf #[] 0) :: (Dt, listOf wt0.toArray 0) :: (l0, o0) :: news) := ⟨_, _, by simpa using hi1, N1⟩
  clear N1 hi1 e1 e3
  have hlD : Dt ≠ lw := Nat.ne_of_lt l1w.1
  have hnl : ∀ p ∈ news, p.1 < Dt := ktn_ltOf lDt.2
  have hnw : ∀ p ∈ news, p.1 < lw := fun p hp => Nat.lt_trans (hnl p hp) l1w.1
  have hwD : lw < Ds := lDs _ (.head _)
  have S0 : WS Dt lw ((Ds, listOf wss.toArray c) :: news) ((Ds, listOf wss.toArray c) :: (lw, listOf #[] 0) :: (Dt, listOf wt0.toArray 0) :: (l0, o0) :: news) (List.replicate ps.length 0) [] := by
    refine ⟨⟨wt0, 0, .tail _ (.tail _ (.head _)), hit0⟩, ⟨[], 0, .tail _ (.head _), .nil⟩, fun p hp => ?_, hlD, fun p hp => ?_⟩
    · rcases List.mem_cons.mp hp with rfl | hp
      · exact .head _
      · exact .tail _ (.tail _ (.tail _ (.tail _ hp)))
    · rcases List.mem_cons.mp hp with rfl | hp
      · exact ⟨Nat.ne_of_gt (Nat.lt_trans l1w.1 hwD), Nat.ne_of_gt hwD⟩
      · exact ⟨Nat.ne_of_lt (hnl p hp), Nat.ne_of_lt (hnw p hp)⟩
  have hwl : wss.length = (sortD ns).length := hiS.length
  refine Held.out ?_
  refine iter_led (J := JW Dt lw lp ln ((Ds, listOf wss.toArray c) :: news) ps ns) rfl F1 N2 (.head _) ?_ ?_ ?_ ?_
  · exact ⟨_, _, S0, rfl, .cons rfl (.cons rfl (.cons rfl (.cons rfl .nil)))⟩
  · rintro j m led ⟨tl, wl, S, _⟩
    exact S.keep _ (.head _)
  · clear S0 N2 F1
    intro i v m₁ led₁ h tk I ito hv hJ9 ho F2 N2
    obtain ⟨tl, wl, S, hst, hm1⟩ := hJ9
    obtain ⟨x, hx, tx, rfl⟩ : ∃ x, (sortD ns)[i]? = some x ∧ ∃ tx, v = .int x tx := by
      cases hxj : (sortD ns)[i]? with
      | none =>
        have := List.getElem?_eq_none_iff.mp hxj
        rw [List.getElem?_eq_none (by rw [hwl]; exact this)] at hv
        cases hv
      | some x =>
        obtain ⟨t, ht⟩ := hiS.get i x hxj
        rw [ht] at hv
        cases hv
        exact ⟨x, rfl, t, rfl⟩
    have hxn := hns x ((sortD_perm ns).mem_iff.mp (List.mem_of_getElem? hx))
    have hil : i < ns.length := by have := (List.getElem?_eq_some_iff.mp hx).1; rw [sortD_length] at this; exact this
    have hstep : ((sortD ns).take (i + 1)).foldl (wayStep ps ns) (List.replicate ps.length 0, []) = wayStep ps ns (tl, wl) x := by
      rw [List.take_add_one, hx, List.foldl_append, ← hst]; rfl
    have hlen := wayFold_len ps ns ((sortD ns).take i) (List.replicate ps.length 0, [])
    rw [← hst] at hlen
    have htl : tl.length = ps.length := by have := hlen.1; simpa using this
    have hwll : wl.length ≤ 64 := by have := hlen.2; rw [List.length_take, sortD_length] at this; simp at this; omega
    have hpo : 0 ≤ ps.getD x.toNat 0 ∧ ps.getD x.toNat 0 < ps.length := by
      have h1 : x.toNat < ps.length := by omega
      have e : ps.getD x.toNat 0 = ps[x.toNat] := by simp [h1]
      rw [e]; exact hps _ (List.getElem_mem h1)
    obtain ⟨hp0, hp1⟩ := hpo
    obtain ⟨hx0, hx1⟩ := hxn
    obtain ⟨wt, nt, hmt, hit⟩ := S.tall
    obtain ⟨ww, nw, hmw, hiw⟩ := S.ways
    have hwwl := hiw.length
    have hmP : (lp, listOf wp.toArray np) ∈ led₁ := S.keep _ (.tail _ hmp)
    have hmN : (ln, listOf wn.toArray nn) ∈ led₁ := S.keep _ (.tail _ hmn)
    have S1 := S.enter (ito := ito) ho
    replace F2 : Fr g' L' h _ := fr_pins F2 (hm1.skip (.cons (by decide) (.cons (by decide) (.cons (by decide) (.cons (by decide) .nil)))))
    replace N2 : News g' L' h ((I, ito) :: led₁) := N2
    have hr : ∀ p ∈ (Ds, listOf wss.toArray c) :: news, p.1 ≠ I := fun p hp => ho p (S.keep p hp)
    k_steps
    · rename (¬ ps.getD x.toNat 0 ∈ ns) => hno
      rename Fr _ _ _ _ => F10
      rename News _ _ _ _ => N10
      have S2 := S1.setW (by assumption) (ww := ww ++ [.int _ _]) (by assumption) (IntsAre.append hiw (.cons _ _ .nil))
      obtain ⟨led6, N6, ho6, S6⟩ := S2.endOf N10 hr
      refine TEnd.mk' F10 N6 ho6 ⟨_, _, S6, ?_, .cons rfl (.cons rfl (.cons rfl (.cons rfl .nil)))⟩
      rw [hstep]
      unfold wayStep
      exact (if_pos hno).symm
    · rename (¬ ¬ ps.getD x.toNat 0 ∈ ns) => hno
      rename Fr _ _ _ _ => F10
      rename News _ _ _ _ => N10
      rename (tl.getD (ps.getD x.toNat 0).toNat 0 = 0) => hz
      have S2 := S1.setT (by assumption) (by assumption) (by assumption)
      obtain ⟨led6, N6, ho6, S6⟩ := S2.endOf N10 hr
      refine TEnd.mk' F10 N6 ho6 ⟨_, _, S6, ?_, .cons rfl (.cons rfl (.cons rfl (.cons rfl .nil)))⟩
      rw [hstep]
      unfold wayStep
      exact ((if_neg hno).trans (if_pos hz)).symm
    · rename (¬ ¬ ps.getD x.toNat 0 ∈ ns) => hno
      rename (tl.getD (ps.getD x.toNat 0).toNat 0 ≠ 0) => hz
      have S2 := S1.setW (by assumption) (ww := ww ++ [.int _ _]) (by assumption) (IntsAre.append hiw (.cons _ _ .nil))
      obtain ⟨wt2, nt2, hmt2, hit2⟩ := S2.tall
      k_steps
      have S3 := S2.setT (by assumption) (by assumption) (by assumption)
      rename Fr _ _ _ _ => F10
      rename News _ _ _ _ => N10
      obtain ⟨led6, N6, ho6, S6⟩ := S3.endOf N10 hr
      refine TEnd.mk' F10 N6 ho6 ⟨_, _, S6, ?_, .cons rfl (.cons rfl (.cons rfl (.cons rfl .nil)))⟩
      rw [hstep]
      unfold wayStep
      exact ((if_neg hno).trans (if_neg hz)).symm
  · intro m₁ led₁ h tk hJ9 F2 N2
    obtain ⟨tl, wl, S, hst, hm1⟩ := hJ9
    have hst' : (tl, wl) = (sortD ns).foldl (wayStep ps ns) (List.replicate ps.length 0, []) := by rw [hst, hwl, List.take_length]
    have hlen := (wayFold_len ps ns (sortD ns) (List.replicate ps.length 0, [])).2
    rw [← hst', sortD_length] at hlen
    have hwll : wl.length < 64 := by simp at hlen; omega
    obtain ⟨ww, nw, hmw, hiw⟩ := S.ways
    replace F2 : Fr g' L' h _ := fr_pins F2 hm1
    replace N2 : News g' L' h led₁ := N2
    k_steps
    refine hret _ _ _ _ _ _ (by k_asm) (by k_asm) (.head _) ?_ (fun p hp => .tail _ (S.keep _ (.tail _ hp))) (fun p hp => ?_)
    · unfold waysOf
      rw [← hst']
      assumption
    · rename (∀ q : Addr × Obj, q ∈ led₁ → q.1 < _) => hlt
      exact hlt _ (S.keep _ (.tail _ hp))
end
end XWays
section XTools2
set_option maxRecDepth 100000

example : True := by
  k_with_none
  trivial

section
variable {M : Model} {A : Around} {E : Value → Shared → Prop} {s : Shared} {h₀ : Heap} {L a : Addr} {m : Str → Option Value} {cn : Str} {cs : Scope} {ccd : Value} {cl : List (Str × Addr)}
  {x : Str} {v : Value} {Q : Unit → Shared → Prop} {news : List (Addr × Obj)} {c : Addr} {o : Obj} {v₀ : Option Value}
theorem storeC_led (F : Fr h₀ L s.heap m) (N : News h₀ L s.heap news) (hc : cl.lookup x = some c) (hm : (c, o) ∈ news) (hd : o.data = .cell v₀)
    (h : ∀ h' o' led', Fr h₀ L h' m → News h₀ L h' led' → (c, o') ∈ led' → o'.data = .cell (some v) → (∀ p ∈ news, p.1 ≠ c → p ∈ led') → (∀ p ∈ led', ∃ q ∈ news, q.1 = p.1) → Q () { s with heap := h' })
    (hk : cs.kind = .function := by rfl) (hx : (envX cn cs L a ccd cl).kindOf x = some .cell := by rfl) : wpAny M A (storeName (envX cn cs L a ccd cl) x v) Q E s :=
  storeX_C F (news_turnTo N hm) hc (.head fun p hp => by simpa using (List.mem_filter.mp hp).2) hd (fun h' o' F' N' hd' => h h' o' _ F' N' (.head _) hd' (fun p hp hn => turnTo_old (o' := o') hp hn) (fun p hp => turnTo_addr (o' := o') hm hp)) hk hx
end
section
variable {prog : Program} {w : World} {A : Around} {E : Value → Shared → Prop} {s : Shared} {env : Env} {h₀ : Heap} {x : Str} {body : List Stmt} {Q : Flow → Shared → Prop}
theorem iter_rg {r : Addr} {a b : Int} {t u v : Tok} {n : Nat} {m₀ : Str → Option Value} {led₀ : List (Addr × Obj)} (J : Nat → (Str → Option Value) → List (Addr × Obj) → Prop)
    (hh : A.handled = none) (hr : IsRange s.heap r a b 1 t u v) (hsm : Builtin.Range.small a b 1 = true) (hn : Builtin.Range.rangeSize a b 1 = (n : Int)) (F : Fr h₀ env.locals s.heap m₀) (N : News h₀ env.locals s.heap led₀) (hj : J 0 m₀ led₀)
    (turn : ∀ i u m₁ led₁ h tk I ito, i < n → J i m₁ led₁ → (∀ p ∈ led₁, p.1 ≠ I) → Fr h₀ env.locals h (fun y => if y = x then some (.int (a + (i : Int)) u) else m₁ y) → News h₀ env.locals h ((I, ito) :: led₁) →
      wpAny (model prog w) A (execs body env) (TPost h₀ env.locals I ito (J (i + 1)) { s with heap := h, toks := tk } Q) E { s with heap := h, toks := tk })
    (done : ∀ m₁ led₁ h tk, J n m₁ led₁ → Fr h₀ env.locals h m₁ → News h₀ env.locals h led₁ → Q .next { s with heap := h, toks := tk }) :
    wpAny (model prog w) A (pyIter (.ref r)) (fun it s₂ => LoopAtV prog w A h₀ env x body Q E it s₂) E s := by
  refine wpAny_pyIter_range hr hsm ?_
  have hI₀ : h₀.get? s.heap.objs.size = none := by
    cases q : h₀.get? s.heap.objs.size with
    | none => rfl
    | some o => exact absurd (Heap.lt_size (F.keep _ _ q)) (Nat.lt_irrefl _)
  have hz : ∀ p ∈ led₀, p.1 ≠ s.heap.objs.size := fun p hp => Nat.ne_of_lt (Heap.lt_size (N p hp).1)
  refine loop_one (s := { s with heap := s.heap.push _ }) J (LCg.range_walks hh a n) hI₀ (Nat.ne_of_lt F.ns.lt) (by show IsRangeIter _ _ _ _ _; rw [hn]; simpa using Heap.get?_push_size _ rfl) (fun i h hst => ⟨_, hst⟩) (F.push _) (fun p hp => ⟨Heap.get?_push_of_some _ (N p hp).1, (N p hp).2⟩) hz hj ?_ done
  intro i v m₁ led₁ h tk ito hi hJ9 hJ ho F₁ N₁
  obtain ⟨t, rfl⟩ := hJ9
  exact turn i t m₁ led₁ h tk _ ito hi hJ ho F₁ N₁
theorem loop_any {target : Expr} {I : Addr} {n : Nat} {P : Nat → Value → Prop} {St : Nat → Heap → Prop} {m₀ : Str → Option Value} {led₀ : List (Addr × Obj)} (J : Nat → (Str → Option Value) → List (Addr × Obj) → Prop)
    (W : Walks prog w A I [I] [I] n P St) (hI₀ : h₀.get? I = none) (hIL : env.locals ≠ I) (hst : St 0 s.heap) (live : ∀ i h, St i h → ∃ o, h.get? I = some o)
    (F : Fr h₀ env.locals s.heap m₀) (N : News h₀ env.locals s.heap led₀) (ho : ∀ p ∈ led₀, p.1 ≠ I) (hj : J 0 m₀ led₀)
    (turn : ∀ i v m₁ led₁ h tk ito, i < n → P i v → J i m₁ led₁ → (∀ p ∈ led₁, p.1 ≠ I) → Fr h₀ env.locals h m₁ → News h₀ env.locals h ((I, ito) :: led₁) →
      wpAny (model prog w) A (assign target env v) (fun _ s₂ => wpAny (model prog w) A (execs body env) (TPost h₀ env.locals I ito (J (i + 1)) { s with heap := h, toks := tk } Q) E s₂) E { s with heap := h, toks := tk })
    (done : ∀ m₁ led₁ h tk, J n m₁ led₁ → Fr h₀ env.locals h m₁ → News h₀ env.locals h led₁ → Q .next { s with heap := h, toks := tk })
    (hE : PassesOwn (model prog w) A env E) (ht : ∀ v, letOwnedTupleGo target (.ref I) v = pure ()) :
    codeAny (model prog w) A (.forLoop target (.ref I) body [] env) (fun r s' => match r with | .ok f => Q f s' | .error e => cameBackBy (model prog w) A env E e s') s := by
  have old : ∀ b o, h₀.get? b = some o → b ≠ I := fun b o e hb => by rw [hb, hI₀] at e; cases e
  refine codeAny_forLoop
    (fun k s' => ∃ h' tk m' led' i, s' = { s with heap := h', toks := tk } ∧ St i h' ∧ Fr h₀ env.locals h' m' ∧ News h₀ env.locals h' led' ∧ (∀ p ∈ led', p.1 ≠ I) ∧ J i m' led' ∧ i ≤ n ∧ k = n + 1 - i) ?_ (n + 1)
    ⟨s.heap, s.toks, m₀, led₀, 0, rfl, hst, F, N, ho, hj, Nat.zero_le _, rfl⟩ ht
  rintro k s' ⟨h', tk, m', led', i, rfl, hst', F', N', ho', hJ, hi, rfl⟩
  have next : ∀ h₁ : Heap, (∀ b o, b ∉ [I] → h'.get? b = some o → h₁.get? b = some o) → Fr h₀ env.locals h₁ m' ∧ News h₀ env.locals h₁ led' := fun h₁ hk₁ =>
    ⟨⟨F'.ns.at' fun o e => hk₁ _ o (by simpa using hIL) e, fun b o e => hk₁ b o (by simpa using old b o e) (F'.keep b o e), F'.above⟩, fun p hp => ⟨hk₁ _ _ (by simpa using ho' p hp) (N' p hp).1, (N' p hp).2⟩⟩
  by_cases hlt : i < n
  · refine W.item i _ _ _ hlt hst' fun v h₁ tk₁ hP hst₁ hk₁ => ?_
    obtain ⟨F₁, N₁⟩ := next h₁ hk₁
    obtain ⟨ito, hito⟩ := live _ _ hst₁
    refine wpAny_passesOwn hE ?_
    refine wpAny_mono (turn i v m' led' h₁ tk₁ ito hlt hP hJ ho' F₁ (fun p hp => ?_)) (fun _ s₂ h₂ => ?_) fun _ _ e => e
    · rcases List.mem_cons.mp hp with rfl | hp
      · exact ⟨hito, Ne.symm hIL, hI₀⟩
      · exact N₁ _ hp
    · refine wpAny_mono (wpAny_passesOwn hE h₂) (fun f s₃ hfl => ?_) fun _ _ e => e
      have fin : TEnd h₀ env.locals I ito (J (i + 1)) { s with heap := h₁, toks := tk₁ } s₃ → ∃ m, m < n + 1 - i ∧ ∃ h' tk m' led' i, s₃ = { s with heap := h', toks := tk } ∧ St i h' ∧ Fr h₀ env.locals h' m' ∧ News h₀ env.locals h' led' ∧ (∀ p ∈ led', p.1 ≠ I) ∧ J i m' led' ∧ i ≤ n ∧ m = n + 1 - i := by
        rintro ⟨H₃, tk₃, m₃, led₃, rfl, F₃, N₃, ho₃, hj₃⟩
        refine ⟨n + 1 - (i + 1), by omega, H₃, tk₃, m₃, led₃, i + 1, rfl, W.frame _ _ _ hst₁ (fun b hb o e => ?_), F₃, fun p hp => N₃ p (.tail _ hp), ho₃, hj₃, hlt, rfl⟩
        rw [List.mem_singleton.mp hb] at e ⊢
        rw [hito] at e
        exact (N₃ _ (.head _)).1.trans e
      cases f with
      | ret v => exact hfl
      | brk => exact hfl
      | next => exact fin hfl
      | cont => exact fin hfl
  · have hin : i = n := by omega
    subst hin
    refine W.done _ _ _ hst' fun h₁ tk₁ hk₁ => wpAny_execs_nil ?_
    obtain ⟨F₁, N₁⟩ := next h₁ hk₁
    exact done m' led' h₁ tk₁ hJ F₁ N₁
end
section
variable {prog : Program} {w : World} {A : Around} {h₀ : Heap} {L : Addr} {m : Str → Option Value} {env : Env} {ct elt : Expr} {x : Str} {scope : Scope} {cl : List (Str × Addr)} {s : Shared} {S : List (Addr × Obj) → Prop} {P : Nat → Value → Prop} {Fin : List Value → List (Addr × Obj) → Prop} {news : List (Addr × Obj)}
theorem lct_rest {n : Nat} {ks : List Int} (q : Int → Bool) (g : Int → Int) (hks : ks.length = n) (hP : ∀ i v, i < n → P i v → ∃ k t, ks[i]? = some k ∧ v = .int k t)
    (turn : ∀ k t I oI C oC D m₂ ys h tk (E' : Value → Shared → Prop), k ∈ ks → LCg.NsObj oC m₂ → m₂ x = some (.int k t) → Fr h₀ L h m → News h₀ L h ((I, oI) :: (C, oC) :: (D, LCg.lst ys) :: news) → LCg.Off3 I C D news → ((@Ne Nat I C) ∧ (@Ne Nat I D) ∧ (@Ne Nat C D)) →
      wpAny (model prog w) A (isTrue ct (compEnvC scope cl C env) (eval ct (compEnvC scope cl C env))) (fun ok s' => ok = q k ∧ (q k = true → wpAny (model prog w) A (eval elt (compEnvC scope cl C env)) (LCg.CompEnd h₀ L m { s with heap := h, toks := tk } I oI C oC D (LCg.lst ys) S (fun y news' => KCfEl news (g k) y news')) E' s') ∧
        (q k = false → LCg.CompEnd h₀ L m { s with heap := h, toks := tk } I oI C oC D (LCg.lst ys) S (fun _ news' => news' = news) Value.none s')) E' { s with heap := h, toks := tk })
    (fin : ∀ ys, IntsAre ys ((ks.filter q).map g) → Fin ys news) : LCt.CompRestT prog w A h₀ L m env ct elt x scope cl s S P Fin n 0 [] news := by
  have key : ∀ (j i : Nat) (ys : List Value), i + j = n → IntsAre ys (((ks.take i).filter q).map g) → LCt.CompRestT prog w A h₀ L m env ct elt x scope cl s S P Fin j i ys news := by
    intro j
    induction j with
    | zero =>
      intro i ys hi hy
      have e : i = ks.length := by omega
      subst e
      rw [List.take_length] at hy
      exact LCt.CompRestT.zero (fin ys hy)
    | succ j ih =>
      intro i ys hi hy
      refine LCt.CompRestT.succ ?_
      intro v I oI C oC D m₂ h tk E' hv hC hx F N off ne
      obtain ⟨k, t, hk, hv'⟩ := hP i v (by omega) hv
      rw [hv'] at hx
      refine wpAny_mono (turn k t I oI C oC D m₂ ys h tk E' (List.mem_of_getElem? hk) hC hx F N off ne) (fun ok s₂ hq => ?_) fun _ _ e => e
      obtain ⟨rfl, hT, hF⟩ := hq
      cases hqk : q k with
      | true =>
        simp only [if_true]
        refine wpAny_mono (hT hqk) (fun y s₃ hq => ?_) fun _ _ e => e
        obtain ⟨h', tk', nw, e, F', N', off', hS, hn, t', hy'⟩ := hq
        rw [hn] at N' off' hS
        refine ⟨h', tk', news, e, F', N', off', hS, ?_⟩
        rw [hy']
        refine ih (i + 1) _ (by omega) ?_
        rw [List.take_add_one, hk, List.filter_append, List.map_append]
        simpa [hqk] using IntsAre.append hy (.cons (g k) t' .nil)
      | false =>
        simp only [Bool.false_eq_true, if_false]
        obtain ⟨h', tk', nw, e, F', N', off', hS, hn⟩ := hF hqk
        rw [hn] at N' off' hS
        refine ⟨h', tk', news, e, F', N', off', hS, ?_⟩
        refine ih (i + 1) _ (by omega) ?_
        rw [List.take_add_one, hk, List.filter_append, List.map_append]
        simpa [hqk] using hy
  exact key n 0 [] (by omega) (by simp only [List.take_zero, List.filter_nil, List.map_nil]; exact .nil)
end
end XTools2
section XTold
set_option maxRecDepth 100000

example : True := by
  k_with_none
  trivial

example : True := by
  k_with "exec For Name Name cons nil" => (k_here; (with_unfolding_all refine' For_invVF ?wkkF ?wkk1 ?wkk2 ?_; (case wkkF => k_asm); (case wkk1 => exact rfl); (case wkk2 => exact rfl); k_whole))
  k_with "exec For Name List cons nil" => (k_here; (with_unfolding_all refine' For_invVF ?wkkF ?wkk1 ?wkk2 ?_; (case wkkF => k_asm); (case wkk1 => exact rfl); (case wkk2 => exact rfl); k_whole))
  k_with "exec For Name Call cons nil" => (k_here; (with_unfolding_all refine' For_invVF ?wkkF ?wkk1 ?wkk2 ?_; (case wkkF => k_asm); (case wkk1 => exact rfl); (case wkk2 => exact rfl); k_whole))
  k_with "exec For Name Subscript cons nil" => (k_here; (with_unfolding_all refine' For_invVF ?wkkF ?wkk1 ?wkk2 ?_; (case wkkF => k_asm); (case wkk1 => exact rfl); (case wkk2 => exact rfl); k_whole))
  k_with "pyIter ref" => refine Held.mk ?_
  k_with "pyIter bytes" => refine Held.mk ?_
  k_with "call ref" => refine Held.mk ?_
  k_with "TPost" => dsimp only [TPost]
  k_with "storeName" => (k_here; k_dflt (refine' storeC_led ?wkF ?wkN ?wkc ?wkm ?wkd ?_; (case wkF => k_asm); (case wkN => k_asm); (case wkc => exact rfl); (case wkm => k_mem); (case wkd => first | assumption | exact rfl)); intro _ _ _ _ _ _ _ _ _)
  trivial
theorem nd3 {a b c : Nat} (h1 : a < c) (h2 : c < b) : [a, b, c].Nodup := by simp; omega
theorem no3 {x a b c : Nat} (h1 : x ≠ a) (h2 : x ≠ b) (h3 : x ≠ c) : x ∉ [a, b, c] := by simp [h1, h2, h3]
noncomputable def shapeK (ps ns : List Int) (k : Nat) : List Int := waysOf ps (ns.take k) ++ List.replicate (ns.length - (waysOf ps (ns.take k)).length) 0
noncomputable def shapesTo (ps ns : List Int) (k : Nat) : List (List Int) := (List.range k).map (shapeK ps ns)
noncomputable def rowK (ps ns : List Int) (i : Nat) : List Int := ((List.range ns.length).filter fun k => decide ((shapeK ps ns (k + 1)).getD i 0 > (shapeK ps ns k).getD i 0)).map fun (k : Nat) => 96 + ((k : Int) + 1)
noncomputable def toldTo (ps ns : List Int) (n : Nat) : List (List Int) := (List.range n).flatMap fun i => if rowK ps ns i = [] then [] else [(rowK ps ns i).map fun x => 2 * x + 1, (rowK ps ns i).map fun x => 2 * x]
noncomputable def toldOf (ps ns : List Int) : List (List Int) := toldTo ps ns ns.length
theorem fr_fresh {h₀ h : Heap} {L : Addr} {m : Str → Option Value} (F : Fr h₀ L h m) : h₀.get? h.objs.size = none := by
  cases q : h₀.get? h.objs.size with
  | none => rfl
  | some o => exact absurd (Heap.lt_size (F.keep _ _ q)) (Nat.lt_irrefl _)
theorem sub_led_at {value slice : Expr} {prog : Program} {w : World} {A : Around} {E : Value → Shared → Prop} {s : Shared} {h₀ : Heap} {L D : Addr} {news : List (Addr × Obj)} {n : Nat} {ws : List Value} {i : Nat} {k : Int} {t : Tok} {v : Value} {Q : Value → Shared → Prop}
    (N : News h₀ L s.heap news) (hm : (D, listOf ws.toArray n) ∈ news) (e : k = (i : Int)) (hv : ws[i]? = some v) (hz : i < 2 ^ 20) (h : Q v s)
    (hs : subscripted slice false (.ref D) (.int k t) = operate [.ref D, .int k t] (getItem (.ref D) (.int k t)) := by with_unfolding_all rfl) (hg : ∀ r, letTemporaryGo value (.ref D) r = pure () := by intro _; with_unfolding_all rfl) :
    wpAny (model prog w) A (subscriptTail value slice (.ref D) (.int k t)) Q E s :=
  item_list (N.isList hm) (by omega) (by omega) (by rw [e]; simpa using hv) h hs hg
theorem waysOf_len (ps ns : List Int) : (waysOf ps ns).length ≤ ns.length := by
  unfold waysOf
  rw [sortD_length]
  have := (wayFold_len ps ns (sortD ns) (List.replicate ps.length 0, [])).2
  rw [sortD_length] at this
  simpa using this
theorem shapeK_len (ps ns : List Int) (k : Nat) : (shapeK ps ns k).length = ns.length := by
  unfold shapeK
  have h1 := waysOf_len ps (ns.take k)
  have h2 : (ns.take k).length ≤ ns.length := by rw [List.length_take]; omega
  rw [List.length_append, List.length_replicate]
  omega
theorem toldTo_succ (ps ns : List Int) (n : Nat) : toldTo ps ns (n + 1) = toldTo ps ns n ++ if rowK ps ns n = [] then [] else [(rowK ps ns n).map fun x => 2 * x + 1, (rowK ps ns n).map fun x => 2 * x] := by
  unfold toldTo
  rw [List.range_succ, List.flatMap_append]
  simp
theorem toldTo_len (ps ns : List Int) : ∀ n, (toldTo ps ns n).length ≤ 2 * n
  | 0 => by simp [toldTo]
  | n + 1 => by
    rw [toldTo_succ, List.length_append]
    have := toldTo_len ps ns n
    split <;> simp <;> omega
theorem rowK_len (ps ns : List Int) (n : Nat) : (rowK ps ns n).length ≤ ns.length := by
  unfold rowK
  rw [List.length_map]
  refine Nat.le_trans (List.length_filter_le _ _) ?_
  rw [List.length_range]
  exact Nat.le_refl _
theorem off1_of {D : Addr} : ∀ {l : List (Addr × Obj)}, LCg.Off1 D l → ∀ p ∈ l, p.1 ≠ D
  | [], _, p, hp => by cases hp
  | q :: r, h, p, hp => by
    rcases List.mem_cons.mp hp with rfl | hp
    · exact h.1
    · exact off1_of h.2 p hp
structure SH (ci Sl : Addr) (as : List Addr) (nS : Nat) (rest led : List (Addr × Obj)) (rows : List (List Int)) : Prop where
  mem : (Sl, listOf (as.map Value.ref).toArray nS) ∈ led
  rows : RowsAt led as rows
  nd : (ci :: Sl :: as).Nodup
  cell : ∃ o v, (ci, o) ∈ led ∧ o.data = .cell v
  keep : ∀ p ∈ rest, p ∈ led
  off : ∀ p ∈ rest, p.1 ∉ ci :: Sl :: as
section
variable {ci Sl : Addr} {as : List Addr} {nS : Nat} {rest led led' : List (Addr × Obj)} {rows : List (List Int)}
theorem SH.grow (S : SH ci Sl as nS rest led rows) (hk : ∀ p ∈ led, p ∈ led') : SH ci Sl as nS rest led' rows := by
  obtain ⟨h1, h2, h3, ⟨o, v, h4, h5⟩, h6, h7⟩ := S
  exact ⟨hk _ h1, h2.mono fun _ _ _ h => hk _ h, h3, ⟨o, v, hk _ h4, h5⟩, fun p hp => hk _ (h6 p hp), h7⟩
theorem SH.setC (S : SH ci Sl as nS rest led rows) (hk : ∀ p ∈ led, p.1 ≠ ci → p ∈ led') {o : Obj} {v : Option Value} (hm : (ci, o) ∈ led') (hd : o.data = .cell v) : SH ci Sl as nS rest led' rows := by
  obtain ⟨h1, h2, h3, _, h6, h7⟩ := S
  have hc := (List.nodup_cons.mp h3).1
  exact ⟨hk _ h1 fun e => hc (by rw [← show Sl = ci from e]; exact .head _), h2.mono fun a ha o h => hk _ h fun e => hc (by rw [← show a = ci from e]; exact .tail _ ha), h3, ⟨o, v, hm, hd⟩, fun p hp => hk _ (h6 p hp) fun e => h7 p hp (by rw [e]; exact .head _), h7⟩
theorem SH.ne (S : SH ci Sl as nS rest led rows) {I : Addr} (ho : ∀ p ∈ led, p.1 ≠ I) : I ∉ ci :: Sl :: as := fun h => by
  rcases List.mem_cons.mp h with h | h
  · obtain ⟨o, v, h4, _⟩ := S.cell
    exact ho _ h4 h.symm
  · rcases List.mem_cons.mp h with h | h
    · exact ho _ S.mem h.symm
    · obtain ⟨i, hi⟩ := List.getElem?_of_mem h
      obtain ⟨_, _, _, _, hm, _⟩ := S.rows.get hi
      exact ho _ hm rfl
theorem SH.enter (S : SH ci Sl as nS rest led rows) {I : Addr} {ito : Obj} (ho : ∀ p ∈ led, p.1 ≠ I) : SH ci Sl as nS ((I, ito) :: rest) ((I, ito) :: led) rows := by
  have hI := S.ne ho
  obtain ⟨h1, h2, h3, ⟨o, v, h4, h5⟩, h6, h7⟩ := S
  refine ⟨.tail _ h1, h2.mono fun _ _ _ h => .tail _ h, h3, ⟨o, v, .tail _ h4, h5⟩, fun p hp => ?_, fun p hp => ?_⟩
  · rcases List.mem_cons.mp hp with rfl | hp
    · exact .head _
    · exact .tail _ (h6 p hp)
  · rcases List.mem_cons.mp hp with rfl | hp
    · exact hI
    · exact h7 p hp
theorem SH.endOf {h₀ h : Heap} {L I : Addr} {ito : Obj} (S : SH ci Sl as nS ((I, ito) :: rest) led rows) (N : News h₀ L h led) (hr : ∀ p ∈ rest, p.1 ≠ I) :
    ∃ led'', News h₀ L h ((I, ito) :: led'') ∧ (∀ p ∈ led'', p.1 ≠ I) ∧ SH ci Sl as nS rest led'' rows := by
  obtain ⟨h1, h2, h3, ⟨o, v, h4, h5⟩, h6, h7⟩ := S
  have f : ∀ p ∈ led, p.1 ≠ I → p ∈ led.filter fun p => p.1 != I := fun p hp hn => List.mem_filter.mpr ⟨hp, by simpa using hn⟩
  have hI := h7 _ (.head _)
  refine ⟨led.filter fun p => p.1 != I, fun p hp => ?_, fun p hp => by simpa using (List.mem_filter.mp hp).2, f _ h1 (fun e => hI (by rw [← show Sl = I from e]; exact .tail _ (.head _))), h2.mono fun a ha o h => f _ h fun e => hI (by rw [← show a = I from e]; exact .tail _ (.tail _ ha)), h3, ⟨o, v, f _ h4 (fun e => hI (by rw [← show ci = I from e]; exact .head _)), h5⟩, fun p hp => f _ (h6 p (.tail _ hp)) (hr p hp), fun p hp => h7 p (.tail _ hp)⟩
  rcases List.mem_cons.mp hp with rfl | hp
  · exact N _ (h6 _ (.head _))
  · exact N _ (List.mem_filter.mp hp).1
theorem SH.push (S : SH ci Sl as nS rest led rows) {a : Addr} {nS' : Nat} {ns : List Int} {ws : List Value} {n : Nat} (hk : ∀ p ∈ led, p.1 ≠ Sl → p ∈ led') (hm : (Sl, listOf ((as ++ [a]).map Value.ref).toArray nS') ∈ led')
    (ha : (a, listOf ws.toArray n) ∈ led') (hi : IntsAre ws ns) (hn : ∀ p ∈ led, p.1 ≠ a) : SH ci Sl (as ++ [a]) nS' rest led' (rows ++ [ns]) := by
  have hI := S.ne hn
  obtain ⟨h1, h2, h3, ⟨o, v, h4, h5⟩, h6, h7⟩ := S
  obtain ⟨h8, h9⟩ := List.nodup_cons.mp h3
  obtain ⟨h10, h11⟩ := List.nodup_cons.mp h9
  refine ⟨hm, (h2.mono fun b hb o h => hk _ h fun e => h10 (by rw [← show b = Sl from e]; exact hb)).snoc ha hi, ?_, ⟨o, v, hk _ h4 (fun e => h8 (by rw [show ci = Sl from e]; exact .head _)), h5⟩, fun p hp => hk _ (h6 p hp) fun e => h7 p hp (by rw [e]; exact .tail _ (.head _)), fun p hp h => ?_⟩
  · rw [show ci :: Sl :: (as ++ [a]) = (ci :: Sl :: as) ++ [a] from rfl]
    refine List.nodup_append.mpr ⟨h3, by simp, fun x hx y hy e => ?_⟩
    rw [List.mem_singleton.mp hy] at e
    exact hI (e ▸ hx)
  · rw [show ci :: Sl :: (as ++ [a]) = (ci :: Sl :: as) ++ [a] from rfl] at h
    rcases List.mem_append.mp h with h | h
    · exact h7 p hp h
    · exact hn p (h6 p hp) (List.mem_singleton.mp h)
end
example : True := by
  k_with "call builtin:list.append" => (k_here; k_dflt (refine' append_ws ?wkF ?wkN ?wkm ?wkz ?_; (case wkF => k_asm); (case wkN => k_asm); (case wkm => k_mem); (case wkz => first | assumption | omega)); intro _ _ _ _ _ _ _)
  k_with "eval ListComp" => (k_here; k_dflt (refine LCg.ListComp_U (F₀ := by k_asm) (by with_unfolding_all rfl) (by decide) (by rfl) (by decide) (by rfl) ?_))
  k_with "CompSrc" => refine Held.mk ?_
  k_with "CompSrcT" => refine Held.mk ?_
  k_with "subscriptTail Name Name ref int" => (k_here; k_dflt first | (refine' sub_led_at ?wkN ?wkm ?wke ?wkv ?wkz ?_; (case wkN => k_asm); (case wkm => k_mem); (case wke => with_reducible assumption); (case wkv => with_reducible assumption); (case wkz => omega)) | (refine' ksa_sub ?wkN ?wkm ?wke ?wkv ?wkz ?wky ?_; (case wkN => k_asm); (case wkm => k_mem); (case wke => with_reducible assumption); (case wkv => omega); (case wkz => rw [shapeK_len]; omega); (case wky => omega); intro _))
  k_with "subscriptTail Name BinOp ref int" => (k_here; k_dflt first | (refine' sub_led_at ?wkN ?wkm ?wke ?wkv ?wkz ?_; (case wkN => k_asm); (case wkm => k_mem); (case wke => with_reducible assumption); (case wkv => with_reducible assumption); (case wkz => omega)) | (refine' ksa_sub ?wkN ?wkm ?wke ?wkv ?wkz ?wky ?_; (case wkN => k_asm); (case wkm => k_mem); (case wke => with_reducible assumption); (case wkv => omega); (case wkz => rw [shapeK_len]; omega); (case wky => omega); intro _))
  k_with "subscriptTail Subscript" => (k_here; k_dflt (refine kba_turn (value' := PySem.Expr.Name (PySem.Str.ofString "_") ⟨0, 0, 0, 0⟩) (fun _ => rfl) ?_))
  trivial
inductive JS1 (ci Sl lp ln : Addr) (rest : List (Addr × Obj)) (ps ns : List Int) (n : Int) (tz : Tok) (i : Nat) (m : Str → Option Value) (led : List (Addr × Obj)) : Prop
  | mk (as : List Addr) (nS : Nat) (S : SH ci Sl as nS rest led (shapesTo ps ns (i + 1))) (hm : Pins m [(Str.ofString "size", .int n tz), (Str.ofString "parents", .ref lp), (Str.ofString "nodes", .ref ln)]) : JS1 ci Sl lp ln rest ps ns n tz i m led
inductive JS2 (ci Rl : Addr) (rest : List (Addr × Obj)) (ps ns : List Int) (n : Int) (tz : Tok) (i : Nat) (m : Str → Option Value) (led : List (Addr × Obj)) : Prop
  | mk (bs : List Addr) (nR : Nat) (S : SH ci Rl bs nR rest led (toldTo ps ns i)) (hm : Pins m [(Str.ofString "size", .int n tz), (Str.ofString "rows", .ref Rl)]) : JS2 ci Rl rest ps ns n tz i m led
section
variable {prog : Program} {w : World} {p : Program} {loose : List Str} {mean : ExcName → Option Value} {mg mb : Str → Option Value}
set_option maxHeartbeats 4000000 in
theorem toldC {dp un : Nat} {gd : Option (List Code)} {cn : Str} {cs : Scope} {a : Addr} {ccd : Value} {cl : List (Str × Addr)} {outer : List Env} {A₀ : Around} {base h₀ : Heap} {L : Addr} {m : Str → Option Value} {s : Shared} {Q E : Value → Shared → Prop} {news : List (Addr × Obj)} {lp ln : Addr} {wp wn : List Value} {np nn : Nat} {ps ns : List Int}
    (B : Below A₀ base outer h₀) (F : Fr h₀ L s.heap m) (X : (Mine.hd.heap_39 w.params).In h₀) (N : News h₀ L s.heap news) (T : Top p loose mean mg mb h₀) (hk : cs.kind = .function)
    (hmp : (lp, listOf wp.toArray np) ∈ news) (hip : IntsAre wp ps) (hmn : (ln, listOf wn.toArray nn) ∈ news) (hin : IntsAre wn ns) (hlp : ps.length < 1000) (hln : ns.length < 64)
    (hps : ∀ p ∈ ps, 0 ≤ p ∧ p < ps.length) (hns : ∀ n ∈ ns, 0 ≤ n ∧ n < ps.length)
    (hd : dp + 20 < recursionLimit) (hu : un + 150 < cLine)
    (hret : ∀ (h' : Heap) (tk' : Nat) (led' : List (Addr × Obj)) (D : Addr) (as : List Addr) (c : Nat), Fr h₀ L h' m → News h₀ L h' led' → (D, listOf (as.map Value.ref).toArray c) ∈ led' → RowsAt led' as (toldOf ps ns) → (∀ p ∈ news, p ∈ led') → Q (.ref D) { s with heap := h', toks := tk' }) :
    wpAny (model prog w) (ktrTop dp un gd cn cs L a ccd cl outer) (call (.ref 270) [.ref lp, .ref ln]) Q E s := by
  refine wpAny_call ?_
  k_dflt (refine' code_defC ?k1 ?k2 ?k3 ?k4 ?k5 ?kA ?kF ?kK ?k6 ?k7 ?k8 ?k9 ?kB ?kD ?_ ?c2 ?c3 ?c4; (case kA => exact rfl); (case kF => exact rfl); (case kK => first | assumption | exact rfl); (case k1 => k_asm); (case k2 => k_asm); (case k3 => k_asm); (case k4 => k_asm); (case k5 => k_asm); (case k6 => k_is); (case k7 => k_is); (case k8 => ktr_room); (case k9 => first | exact BindsTo.of_eq rfl | exact binds_K (by k_in) rfl (by k_is) rfl rfl rfl | (refine' kp_binds ?kx ?ke; (case kx => k_in); (case ke => exact fun _ => rfl)) | fail "x_enter: no rule for these arguments"); (case kB => exact rfl); (case kD => decide +kernel); (case c2 => exact rfl); (case c3 => exact rfl); (case c4 => exact rfl); k_whole; intro g' L' h' tk' cells' FG' F' N' Y' B' X' T' l1; k_cells Y'; (try simp only [List.cons_append, List.nil_append] at N'); (try dsimp only); (try k_lift B'); (try k_fold))
  k_steps
  rename_i Lz _ lLz Dz _ hi1 n1 _ e1 _ e3 lDz Sl _ _ _ lSl _ o9 led9 _ _ hm9 hd9 hk9 ha9 _ _ _ _ _ hrg F1 N1 hkp1
  obtain ⟨wt0, o0, hit0, hmz⟩ : ∃ wt0 o0, IntsAre wt0 (List.replicate ns.length 0) ∧ (Dz, listOf wt0.toArray 0) ∈ led9 := ⟨_, 0, by simpa using hi1, hk9 _ (.tail _ (.head _)) (Nat.ne_of_gt lDz.2.2.1)⟩
  have hnl : ∀ p ∈ news, p.1 < Dz := ktn_ltOf lDz.2.2.2
  have hns' : ∀ p ∈ news, p.1 < Sl := ktn_ltOf lSl.2.2.2.2
  have hno : ∀ p ∈ news, p.1 < L' := l1
  have hkn : ∀ p ∈ news, p ∈ led9 := fun p hp => hk9 _ (.tail _ (.tail _ (.tail _ (.tail _ (.tail _ hp))))) (Nat.ne_of_lt (Nat.lt_succ_of_lt (hno p hp)))
  have S0 : SH (L' + 1 + 1) Sl [Dz] 0 ((L' + 1, o9) :: news) led9 (shapesTo ps ns 1) := by
    have e1 := lDz.2.1
    have e2 := lSl.1
    have e3 := lDz.2.2.1
    refine ⟨hk9 _ (.head _) (Nat.ne_of_gt (Nat.lt_trans e3 e2)), .cons hmz (by simpa [shapeK, waysOf, sortD] using hit0) .nil, ?_, ⟨_, _, hk9 _ (.tail _ (.tail _ (.tail _ (.head _)))) (Nat.succ_ne_self _), by assumption⟩, fun p hp => ?_, fun p hp => ?_⟩
    · exact nd3 e1 e2
    · rcases List.mem_cons.mp hp with rfl | hp
      · exact hm9
      · exact hkn p hp
    · rcases List.mem_cons.mp hp with rfl | hp
      · exact no3 (Nat.ne_of_lt (Nat.lt_succ_self _)) (Nat.ne_of_lt (Nat.lt_trans e3 e2)) (Nat.ne_of_lt e3)
      · exact no3 (Nat.ne_of_lt (Nat.lt_succ_of_lt (Nat.lt_succ_of_lt (hno p hp)))) (Nat.ne_of_lt (hns' p hp)) (Nat.ne_of_lt (hnl p hp))
  refine Held.out ?_
  refine iter_rg (n := ns.length) (J := JS1 (L' + 1 + 1) Sl lp ln ((L' + 1, o9) :: news) ps ns ns.length (tk' + 1)) rfl hrg ?_ ?_ F1 N1 ?_ ?_ ?_
  · exact small_one (by omega) (by omega) (by omega) (by omega)
  · rw [rangeSize_one]; split <;> omega
  · exact ⟨_, _, S0, .cons rfl (.cons rfl (.cons rfl .nil))⟩
  · clear S0 N1 F1
    intro i u m₁ led₁ h tk I ito hv hJ9 ho F2 N2
    obtain ⟨as, nS, S, hm1⟩ := hJ9
    have S1 := S.enter (ito := ito) ho
    replace F2 : Fr g' L' h _ := fr_pins F2 (hm1.skip (.cons (by decide) (.cons (by decide) (.cons (by decide) .nil))))
    replace N2 : News g' L' h ((I, ito) :: led₁) := N2
    have hr : ∀ p ∈ (L' + 1, o9) :: news, p.1 ≠ I := fun p hp => ho p (S.keep p hp)
    have hmP : (lp, listOf wp.toArray np) ∈ led₁ := S.keep _ (.tail _ hmp)
    have hmN : (ln, listOf wn.toArray nn) ∈ led₁ := S.keep _ (.tail _ hmn)
    k_steps
    rename_i Dn wsn _ F3 N3 hin3 hln3 _ lDn
    have ei : (1 + (i : Int)).toNat = i + 1 := by omega
    rw [ei] at hin3 hln3
    refine Held.out ?_
    k_dflt (refine' waysC (B := ?k1) (F := ?k2) (X := ?k3) (N := ?k4) (T := ?k5) (hk := ?kK) (hmp := ?a1) (hip := hip) (hmn := ?a2) (hin := hin3) (hlp := hlp) (hln := ?a3) (hps := hps) (hns := ?a4) (hd := ?kd) (hu := ?ku) ?_; (case k1 => k_asm); (case k2 => k_asm); (case k3 => k_asm); (case k4 => k_asm); (case k5 => k_asm); (case kK => first | exact rfl | assumption); (case kd => ktr_room); (case ku => ktr_units))
    case a1 => exact .tail _ (.tail _ hmP)
    case a2 => exact .head _
    case a3 => rw [hln3]; omega
    case a4 => exact fun n hn => hns n (List.mem_of_mem_take hn)
    rintro h4 tk4 led4 Dw wsw cw F4 N4 hmw hiw hkw hlw
    have hwl := wayFold_len ps (ns.take (i + 1)) (sortD (ns.take (i + 1))) (List.replicate ps.length 0, [])
    have hwl2 : (waysOf ps (ns.take (i + 1))).length ≤ ns.length := by
      unfold waysOf
      rw [sortD_length]
      have := hwl.2
      rw [sortD_length] at this
      simp at this
      omega
    have hwl3 := hiw.length
    have hal : as.length < 2 ^ 20 := by rw [S.rows.len]; simp [shapesTo]; omega
    have S4 := S1.grow (led' := led4) fun p hp => hkw p (.tail _ hp)
    have hmS4 : (Sl, listOf (as.map Value.ref).toArray nS) ∈ led4 := S4.mem
    have hzS4 : (as.map Value.ref).length < 2 ^ 20 := by rw [List.length_map]; exact hal
    have hcS4 : (L' + 1, o9) ∈ led4 := S4.keep _ (.tail _ (.head _))
    k_steps
    rename_i Lz5 _ l5a Dz5 _ _ _ _ _ _ _ l5b Dr5 wr5 _ _ _ hir5 l5c _ led6 F6 N6 hm6 hk6 ha6
    have l5d : ∀ p ∈ led4, p.1 < Dr5 := ktn_ltOf l5c.2.2
    have S5 := (S4.grow (led' := (Dz5, _) :: (Lz5, _) :: led4) fun p hp => .tail _ (.tail _ hp)).push (nS' := nS + 1) (a := Dr5) (fun p hp hn => hk6 p (.tail _ hp) hn) (by rw [List.map_append]; exact hm6) (hk6 _ (.head _) (Nat.ne_of_gt (l5d _ S4.mem))) hir5 (fun p hp => by
      rcases List.mem_cons.mp hp with rfl | hp
      · exact Nat.ne_of_lt l5c.1
      · rcases List.mem_cons.mp hp with rfl | hp
        · exact Nat.ne_of_lt l5c.2.1
        · exact Nat.ne_of_lt (l5d p hp))
    obtain ⟨led7, N7, ho7, S7⟩ := S5.endOf N6 hr
    refine TEnd.mk' F6 N7 ho7 ⟨as ++ [Dr5], nS + 1, ?_, .cons rfl (.cons rfl (.cons rfl .nil))⟩
    have er : shapesTo ps ns (i + 1 + 1) = shapesTo ps ns (i + 1) ++ [shapeK ps ns (i + 1)] := by simp [shapesTo, List.range_succ]
    have ew : ((ns.length : Int) - ((waysOf ps (ns.take (i + 1))).length : Int)).toNat = ns.length - (waysOf ps (ns.take (i + 1))).length := by omega
    rw [er]
    rw [ew] at S7
    simpa [shapeK] using S7
  · intro m₁ led₁ h tk hJ9 F2 N2
    obtain ⟨as, nS, S, hm1⟩ := hJ9
    replace F2 : Fr g' L' h _ := fr_pins F2 hm1
    replace N2 : News g' L' h led₁ := N2
    have hcS : (L' + 1, o9) ∈ led₁ := S.keep _ (.head _)
    k_steps
    rename_i Rl _ lRl _ F3 N3
    refine wpAny_For ?_ (fun _ => rfl)
    k_steps
    rename IsRange _ _ _ _ _ _ _ _ => hrg2
    rename Fr _ _ _ _ => F4
    rename News _ _ _ _ => N4
    refine Held.out ?_
    refine wpAny_pyIter_range hrg2 (small_one (by omega) (by omega) (by omega) (by omega)) ?_
    obtain ⟨hc1, hc2⟩ := List.nodup_cons.mp S.nd
    have hS2 : SH (L' + 1 + 1) Rl [] 0 (led₁.filter fun p => p.1 != L' + 1 + 1) ((Rl, listOf #[] 0) :: led₁) (toldTo ps ns 0) := by
      obtain ⟨o, v, h4, h5⟩ := S.cell
      refine ⟨.head _, .nil, ?_, ⟨o, v, .tail _ h4, h5⟩, fun p hp => .tail _ (List.mem_filter.mp hp).1, fun p hp h => ?_⟩
      · have := Nat.ne_of_lt (lRl _ h4)
        exact List.nodup_cons.mpr ⟨fun h => this (List.mem_singleton.mp h), by simp⟩
      · obtain ⟨hp1, hp2⟩ := List.mem_filter.mp hp
        rcases List.mem_cons.mp h with h | h
        · simp at hp2; exact hp2 h
        · exact absurd (List.mem_singleton.mp h) (Nat.ne_of_lt (lRl p hp1))
    have hn2 : Builtin.Range.rangeSize 0 (ns.length : Int) 1 = (ns.length : Int) := by rw [rangeSize_one]; split <;> omega
    refine loop_any (n := ns.length) (J := JS2 (L' + 1 + 1) Rl (led₁.filter fun p => p.1 != L' + 1 + 1) ps ns ns.length (tk' + 1)) (by exact LCg.range_walks rfl 0 ns.length) (fr_fresh F4) (Nat.ne_of_lt F4.ns.lt) (by show IsRangeIter _ _ _ _ _; rw [hn2]; simpa using Heap.get?_push_size _ rfl) (fun i h hst => ⟨_, hst⟩) (F4.push _) (fun p hp => ⟨Heap.get?_push_of_some _ (N4 p hp).1, (N4 p hp).2⟩) (fun p hp => Nat.ne_of_lt (Heap.lt_size (N4 p hp).1)) ⟨[], 0, hS2, .cons rfl (.cons rfl .nil)⟩ ?_ ?_ ?_ ?_
    · clear hS2 F4 N4 hrg2
      rintro i v m₂ led₂ h tk ito hi ⟨tv, hv⟩ ⟨bs, nR, SR, hm1⟩ ho F5 N5
      rw [Int.zero_add] at hv
      subst hv
      have SR1 := SR.enter (ito := ito) ho
      obtain ⟨oc, vc, hci, hcd⟩ := SR1.cell
      replace F5 : Fr g' L' h _ := fr_pins F5 hm1
      replace N5 : News g' L' h _ := N5
      k_steps
      rename_i o10 led9 _ _ hm10 hd10 hk10 ha10 _ _ _ _ _ hrg3 F6 N6 _
      have S9 := SR1.setC hk10 hm10 hd10
      have hcS9 : (L' + 1, o9) ∈ led9 := S9.keep _ (.tail _ (List.mem_filter.mpr ⟨hcS, by simp⟩))
      have hSl9 : (Sl, listOf (as.map Value.ref).toArray nS) ∈ led9 := S9.keep _ (.tail _ (List.mem_filter.mpr ⟨S.mem, by simpa using fun e => hc1 (by rw [← show Sl = L' + 1 + 1 from e]; exact .head _)⟩))
      have hasl : as.length = ns.length + 1 := by rw [S.rows.len]; simp [shapesTo]
      have hrow : ∀ j, j < ns.length + 1 → ∃ a w n, (as.map Value.ref)[j]? = some (.ref a) ∧ (a, listOf w n) ∈ led9 ∧ ∃ w', w = w'.toArray ∧ IntsAre w' (shapeK ps ns j) := fun j hj => by
        obtain ⟨r, w', n, h1, h2, h3⟩ := S.rows.get (i := j) (a := as[j]) (by simp [hasl, hj])
        rw [show r = shapeK ps ns j by simp [shapesTo, hj] at h1; exact h1.symm] at h3
        exact ⟨as[j], _, n, by simp [hasl, hj], S9.keep _ (.tail _ (List.mem_filter.mpr ⟨h2, by simpa using fun e => hc1 (by rw [← show as[j] = L' + 1 + 1 from e]; exact .tail _ (List.getElem_mem _))⟩)), w', rfl, h3⟩
      have hlen : ∀ j, (shapeK ps ns j).length = ns.length ∨ True := fun j => .inr trivial
      refine Held.out ?_
      refine LCt.CompSrcT.range rfl F6 N6 hrg3 (small_one (by omega) (by omega) (by omega) (by omega)) (n := ns.length) (by rw [rangeSize_one]; split <;> omega) (by rw [sizeLine_eq]; omega) ?_
      intro g9
      refine lct_rest (ks := rangeKs 1 ns.length) (fun k => decide ((shapeK ps ns k.toNat).getD i 0 > (shapeK ps ns (k - 1).toNat).getD i 0)) (fun k => 96 + k) (rangeKs_length _ _) (fun j v hj ⟨t, e⟩ => ⟨_, t, by simp [rangeKs, hj], e⟩) ?_ ?_
      · intro k tk2 I2 oI2 C2 oC2 D2 m3 ys h5 tk5 E5 hk hC2 hx F7 N7 off ne
        obtain ⟨j, hj, rfl⟩ : ∃ j, j < ns.length ∧ k = 1 + (j : Int) := by
          obtain ⟨j, hj, rfl⟩ := List.mem_map.mp hk
          exact ⟨j, List.mem_range.mp hj, rfl⟩
        obtain ⟨a1, _, n1, hg1, hma1, w1, rfl, hi1⟩ := hrow (j + 1) (by omega)
        obtain ⟨a0, _, n0, hg0, hma0, w0, rfl, hi0⟩ := hrow j (by omega)
        have hk1 : 1 + (j : Int) = ((j + 1 : Nat) : Int) := by omega
        have hk0 : 1 + (j : Int) - 1 = ((j : Nat) : Int) := by omega

        have hk2 : i < 2 ^ 20 := by omega
        clear hk10 hk9 ha10 ha9 S SR SR1 S9 hrow hkn hno hns' hnl hkp1 hcd hci ho hmz
        k_steps
        · have e1 : (1 + (j : Int)).toNat = j + 1 := by omega
          have e2 : (1 + (j : Int) - 1).toNat = j := by omega
          rw [e1, e2]
          rfl
        · exact ⟨rfl, _, rfl⟩
        · exact LCg.CompEnd.intro (by assumption) (by assumption) led9 (fun _ h => h) off trivial rfl
      · intro ys hys D5 h5 tk5 F7 N7 off5
        have hrK : ((rangeKs 1 ns.length).filter fun k => decide ((shapeK ps ns k.toNat).getD i 0 > (shapeK ps ns (k - 1).toNat).getD i 0)).map (fun k => 96 + k) = rowK ps ns i := by
          unfold rowK rangeKs
          rw [List.filter_map, List.map_map]
          refine congr (congrArg List.map (funext fun k => ?_)) (List.filter_congr fun k _ => ?_)
          · simp only [Function.comp]; omega
          · have e1 : (1 + (k : Int)).toNat = k + 1 := by omega
            have e2 : (1 + (k : Int) - 1).toNat = k := by omega
            simp only [Function.comp, e1, e2]
        rw [hrK] at hys
        clear hrK
        have hRl9 : (Rl, listOf (bs.map Value.ref).toArray nR) ∈ led9 := S9.mem
        have hbl : (bs.map Value.ref).length < 2 ^ 16 := by rw [List.length_map, SR.rows.len]; have := toldTo_len ps ns i; omega
        have hbl2 : (bs.map Value.ref).length < 2 ^ 20 := by omega
        have hyl := hys.length
        have hrl := rowK_len ps ns i
        k_steps
        · rename (decide (rowK ps ns i = []) = true) => hempty
          rename Fr _ _ _ _ => F10
          rename News _ _ _ _ => N10
          have hr9 : ∀ p ∈ led₁.filter fun p => p.1 != L' + 1 + 1, p.1 ≠ _ := fun p hp => ho p (SR.keep p hp)
          obtain ⟨led11, N11, ho11, S11⟩ := (S9.grow (led' := _ :: _ :: led9) fun p hp => .tail _ (.tail _ hp)).endOf N10 hr9
          refine TEnd.mk' F10 N11 ho11 ⟨bs, nR, ?_, .cons rfl (.cons rfl .nil)⟩
          rw [toldTo_succ, if_pos (of_decide_eq_true hempty), List.append_nil]
          exact S11
        · rename (decide (rowK ps ns i = []) = false) => hfull
          rename News _ _ _ _ => N10
          rename Fr _ _ _ _ => F10
          refine Held.out ?_
          refine LCg.CompSrc.ledger rfl F10 N10 (.tail _ (.head _)) (by rw [sizeLine_eq, List.size_toArray]; omega) ?_
          intro g10
          refine kcf_list (fun k => 2 * k + 1) hys ?_ ?_
          · intro k tk2 I2 oI2 C2 oC2 D2 m3 ys h5 tk5 E5 hk hC2 hx F7 N7 off ne hMark'
            k_steps
          unfold KPfDone
          intro ys6 hys6 D6 h6 tk6 F11 N11 off6
          have hn6 := off1_of off6
          k_steps
          rename_i h12 led12 F12 N12 hm12 hk12 ha12
          have hDR : ∀ p ∈ led9, p.1 ≠ D5 := off1_of off5
          have S10 := (S9.grow (led' := (_, listOf #[] 0) :: (D5, LCg.lst ys) :: led9) fun p hp => .tail _ (.tail _ hp)).push (nS' := nR + 1) (a := D6) (fun p hp hn => hk12 p (.tail _ hp) hn) (by rw [List.map_append]; exact hm12) (hk12 _ (.head _) (Ne.symm (hn6 _ (.tail _ (.tail _ hRl9))))) hys6 hn6
          have hmD5 : (D5, LCg.lst ys) ∈ led12 := hk12 _ (.tail _ (.tail _ (.head _))) (Ne.symm (hDR _ hRl9))
          have hbl3 : (bs.map Value.ref ++ [Value.ref D6]).length < 2 ^ 20 := by rw [List.length_append]; simp only [List.length_cons, List.length_nil]; omega
          refine Held.out ?_
          refine LCg.CompSrc.ledger rfl F12 N12 hmD5 (by rw [sizeLine_eq, List.size_toArray]; omega) ?_
          intro g13
          refine kcf_list (fun k => 2 * k) hys ?_ ?_
          · intro k tk2 I2 oI2 C2 oC2 D2 m3 ys h5 tk5 E5 hk hC2 hx F7 N7 off ne hMark'
            k_steps
          unfold KPfDone
          intro ys7 hys7 D7 h7 tk7 F13 N13 off7
          have hn7 := off1_of off7
          k_steps
          rename_i h14 led14 F14 N14 hm14 hk14 ha14
          have S11 := S10.push (nS' := nR + 1 + 1) (a := D7) (fun p hp hn => hk14 p (.tail _ hp) hn) (by rw [List.map_append, List.map_append]; exact hm14) (hk14 _ (.head _) (Ne.symm (hn7 _ hm12))) hys7 hn7
          have hr9 : ∀ p ∈ led₁.filter fun p => p.1 != L' + 1 + 1, p.1 ≠ _ := fun p hp => ho p (SR.keep p hp)
          obtain ⟨led15, N15, ho15, S15⟩ := S11.endOf N14 hr9
          refine TEnd.mk' F14 N15 ho15 ⟨bs ++ [D6] ++ [D7], nR + 1 + 1, ?_, .cons rfl (.cons rfl .nil)⟩
          rw [toldTo_succ, if_neg (of_decide_eq_false hfull)]
          simpa using S15
    · intro m₂ led₂ h tk hJ9 F5 N5
      obtain ⟨bs, nR, SR, hm1⟩ := hJ9
      replace F5 : Fr g' L' h _ := fr_pins F5 hm1
      replace N5 : News g' L' h _ := N5
      k_steps
      refine hret _ _ _ _ _ _ (by k_asm) (by k_asm) SR.mem SR.rows (fun p hp => SR.keep _ (List.mem_filter.mpr ⟨S.keep _ (.tail _ hp), by simpa using Nat.ne_of_lt (Nat.lt_succ_of_lt (Nat.lt_succ_of_lt (hno p hp)))⟩))
    · passes_own
    · exact fun _ => rfl
end
end XTold
section XForest
set_option maxRecDepth 100000

example : True := by
  k_with_none
  trivial

example : True := by
  k_with "exec For Name Name cons nil" => (k_here; (with_unfolding_all refine' For_invVF ?wkkF ?wkk1 ?wkk2 ?_; (case wkkF => k_asm); (case wkk1 => exact rfl); (case wkk2 => exact rfl); k_whole))
  k_with "exec For Name List cons nil" => (k_here; (with_unfolding_all refine' For_invVF ?wkkF ?wkk1 ?wkk2 ?_; (case wkkF => k_asm); (case wkk1 => exact rfl); (case wkk2 => exact rfl); k_whole))
  k_with "exec For Name Call cons nil" => (k_here; (with_unfolding_all refine' For_invVF ?wkkF ?wkk1 ?wkk2 ?_; (case wkkF => k_asm); (case wkk1 => exact rfl); (case wkk2 => exact rfl); k_whole))
  k_with "exec For Name Subscript cons nil" => (k_here; (with_unfolding_all refine' For_invVF ?wkkF ?wkk1 ?wkk2 ?_; (case wkkF => k_asm); (case wkk1 => exact rfl); (case wkk2 => exact rfl); k_whole))
  k_with "pyIter ref" => refine Held.mk ?_
  k_with "pyIter bytes" => refine Held.mk ?_
  trivial
theorem list_seen {prog : Program} {w : World} {A : Around} {E : Value → Shared → Prop} {s : Shared} {h₀ : Heap} {L x : Addr} {led : List (Addr × Obj)} {ws : Array Value} {n : Nat} {nm : Str} {pl : Sem Bool} {Q : Value × List Value → Shared → Prop} (_N : News h₀ L s.heap led) (_h : (x, listOf ws n) ∈ led) (g : wpAny (model prog w) A (getMethod (.ref x) nm pl) Q E s) : wpAny (model prog w) A (getMethod (.ref x) nm pl) Q E s := g
example : True := by
  k_with "getMethod ref" => (k_here; (with_reducible show wpAny _ _ (getMethod (Value.ref _) (PySem.Str.ofString "append") _) _ _ _); (fail_if_success (with_reducible refine list_seen (by assumption) (by k_mem) ?_)); refine Held.mk ?_)
  k_with "call ref" => refine Held.mk ?_
  k_with "TPost" => dsimp only [TPost]
  k_with "setItem ref int" => (k_here; k_dflt (refine' set_led ?wkF ?wkN ?wkm ?wki ?wka ?wkb ?wkz ?_; (case wkF => k_asm); (case wkN => k_asm); (case wkm => k_mem); (case wki => assumption); (case wka => omega); (case wkb => omega); (case wkz => omega)); intro _ _ _ _ _ _ _ _ _)
  trivial
theorem led_end {h₀ h : Heap} {L I : Addr} {ito : Obj} {led : List (Addr × Obj)} (N : News h₀ L h led) (hI : (I, ito) ∈ led) : News h₀ L h ((I, ito) :: led.filter fun p => p.1 != I) ∧ (∀ p ∈ led.filter fun p => p.1 != I, p.1 ≠ I) ∧ ∀ p ∈ led, p.1 ≠ I → p ∈ led.filter fun p => p.1 != I := by
  refine ⟨fun p hp => ?_, fun p hp => by simpa using (List.mem_filter.mp hp).2, fun p hp hn => List.mem_filter.mpr ⟨hp, by simpa using hn⟩⟩
  rcases List.mem_cons.mp hp with rfl | hp
  · exact N _ hI
  · exact N _ (List.mem_filter.mp hp).1
structure FSt where
  pcs : List (Int × Bool)
  pars : List Int
  opd : List Int
  cls : List Int
noncomputable def openStep (q : FSt × Int) : FSt × Int := (⟨q.1.pcs ++ [(Int.fmod q.2 4, true)], q.1.pars ++ [if q.1.opd = [] then 0 else q.1.opd.getD (q.1.opd.length - 1) 0], q.1.opd ++ [(q.1.pars.length : Int)], q.1.cls⟩, Int.fdiv q.2 4)
noncomputable def openN : Nat → FSt × Int → FSt × Int
  | 0, q => q
  | n + 1, q => openStep (openN n q)
noncomputable def shut (q : FSt × Int) : FSt := ⟨q.1.pcs ++ [(Int.fmod q.2 4, false)], q.1.pars, q.1.opd.dropLast, q.1.cls ++ [q.1.opd.getD (q.1.opd.length - 1) 0]⟩
noncomputable def countOf (st : FSt) (d : Int) : Int := Int.fmod d 3 + if st.opd = [] then 1 else 0
noncomputable def drawTurn (st : FSt) (d : Int) : FSt := shut (openN (countOf st d).toNat (st, Int.fdiv d 3))
noncomputable def finishN : Nat → FSt → FSt
  | 0, st => st
  | n + 1, st => shut (finishN n st, 0)
noncomputable def forestMid (ds : List Int) : FSt := ds.foldl drawTurn ⟨[], [0], [], []⟩
noncomputable def forestOf (ds : List Int) : FSt := finishN (forestMid ds).opd.length (forestMid ds)
noncomputable def markL : List Str := [Str.ofString "", Str.ofString "\"(\"", Str.ofString "\"\\\")(\"", Str.ofString "\\\")\\\\\""]
noncomputable def pieceS (p : Int × Bool) : Str := markL.getD p.1.toNat Str.empty ++ if p.2 then Str.ofString "(" else Str.ofString ")"
theorem openN_len (st : FSt) (r : Int) : ∀ j, (openN j (st, r)).1.pcs.length = st.pcs.length + j ∧ (openN j (st, r)).1.pars.length = st.pars.length + j ∧ (openN j (st, r)).1.opd.length = st.opd.length + j ∧ (openN j (st, r)).1.cls = st.cls
  | 0 => ⟨rfl, rfl, rfl, rfl⟩
  | j + 1 => by
    obtain ⟨h1, h2, h3, h4⟩ := openN_len st r j
    unfold openN openStep
    simp only [List.length_append, List.length_cons, List.length_nil, h1, h2, h3, h4]
    exact ⟨rfl, rfl, rfl, trivial⟩
theorem count_le (st : FSt) (d : Int) : 0 ≤ countOf st d ∧ countOf st d ≤ 3 := by
  have h1 : 0 ≤ Int.fmod d 3 := Int.fmod_nonneg_of_pos _ (by decide)
  have h2 : Int.fmod d 3 < 3 := Int.fmod_lt_of_pos _ (by decide)
  unfold countOf
  split <;> omega
theorem draw_len (st : FSt) (d : Int) : (drawTurn st d).pcs.length ≤ st.pcs.length + 4 ∧ (drawTurn st d).pars.length ≤ st.pars.length + 3 ∧ (drawTurn st d).opd.length ≤ st.opd.length + 3 ∧ (drawTurn st d).cls.length = st.cls.length + 1 := by
  obtain ⟨h1, h2, h3, h4⟩ := openN_len st (Int.fdiv d 3) (countOf st d).toNat
  have hc : (countOf st d).toNat ≤ 3 := by have := count_le st d; omega
  refine ⟨?_, ?_, ?_, ?_⟩
  · show ((openN _ _).1.pcs ++ [_]).length ≤ _
    rw [List.length_append, h1, List.length_singleton]; omega
  · show ((openN _ _).1.pars).length ≤ _
    rw [h2]; omega
  · show ((openN _ _).1.opd.dropLast).length ≤ _
    rw [List.length_dropLast, h3]; omega
  · show ((openN _ _).1.cls ++ [_]).length = _
    rw [List.length_append, h4, List.length_singleton]
theorem mid_len : ∀ (ds : List Int) (st : FSt), (ds.foldl drawTurn st).pcs.length ≤ st.pcs.length + 4 * ds.length ∧ (ds.foldl drawTurn st).pars.length ≤ st.pars.length + 3 * ds.length ∧ (ds.foldl drawTurn st).opd.length ≤ st.opd.length + 3 * ds.length ∧ (ds.foldl drawTurn st).cls.length = st.cls.length + ds.length
  | [], st => by simp
  | d :: ds, st => by
    have h1 := draw_len st d
    have h2 := mid_len ds (drawTurn st d)
    rw [List.foldl_cons, List.length_cons]
    omega
theorem StrsAre.appendS {vs : List Value} {ss : List Str} (h : StrsAre vs ss) (y : Str) (t : Tok) : StrsAre (vs ++ [.str y t]) (ss ++ [y]) := by
  induction h with
  | nil => exact .cons _ _ .nil
  | cons y0 t0 _ ih => exact .cons y0 t0 ih
theorem markL_le (k : Nat) : (markL.getD k Str.empty).length ≤ 8 := by
  rcases k with _ | _ | _ | _ | k
  · decide
  · decide
  · decide
  · decide
  · show Str.empty.length ≤ 8
    decide
theorem IntsAre.appendI {ws : List Value} {ns : List Int} {x y : Int} {t : Tok} (h : IntsAre ws ns) (e : x = y) : IntsAre (ws ++ [.int x t]) (ns ++ [y]) := by
  subst e
  exact IntsAre.append h (.cons _ _ .nil)
theorem sub_led_last {value slice : Expr} {prog : Program} {w : World} {A : Around} {E : Value → Shared → Prop} {s : Shared} {h₀ : Heap} {L D : Addr} {news : List (Addr × Obj)} {n : Nat} {ws : List Value} {ns : List Int} {t : Tok} {Q : Value → Shared → Prop}
    (N : News h₀ L s.heap news) (hm : (D, listOf ws.toArray n) ∈ news) (hi : IntsAre ws ns) (hne : 0 < ns.length) (h : ∀ t, Q (.int (ns.getD (ns.length - 1) 0) t) s)
    (hs : subscripted slice false (.ref D) (.int (-1) t) = operate [.ref D, .int (-1) t] (getItem (.ref D) (.int (-1) t)) := by with_unfolding_all rfl) (hg : ∀ r, letTemporaryGo value (.ref D) r = pure () := by intro _; with_unfolding_all rfl) :
    wpAny (model prog w) A (subscriptTail value slice (.ref D) (.int (-1) t)) Q E s := by
  have hl := hi.length
  obtain ⟨t', ht⟩ := hi.get (ns.length - 1) (ns.getD (ns.length - 1) 0) (by
    have : ns.length - 1 < ns.length := by omega
    simp [this])
  refine subscriptTail_builtin (News.isList N hm).typeIs slot_list_getitem.lookup (wpAny_getItem_list_neg (News.isList N hm) (by decide) (by rw [List.size_toArray]; omega) (by decide) ?_ (h t')) hs hg
  have e : ((-1 : Int) + (ws.toArray.size : Nat)).toNat = ns.length - 1 := by rw [List.size_toArray]; omega
  rw [e]
  simpa using ht
theorem kllast_of : ∀ (p : List Value) (y : Value), kl_last (p ++ [y]) = some (p, y)
  | [], y => rfl
  | v :: p, y => by
    have ih := kllast_of p y
    cases p with
    | nil => rfl
    | cons v' p' =>
      show kl_last (v :: v' :: (p' ++ [y])) = _
      unfold kl_last
      rw [show v' :: (p' ++ [y]) = v' :: p' ++ [y] from rfl, ih]
theorem pop_last {prog : Program} {w : World} {A : Around} {E : Value → Shared → Prop} {s : Shared} {h₀ : Heap} {L D : Addr} {m : Str → Option Value} {news : List (Addr × Obj)} {n : Nat} {ws : List Value} {ns : List Int} {Q : Value → Shared → Prop}
    (F : Fr h₀ L s.heap m) (N : News h₀ L s.heap news) (hm : (D, listOf ws.toArray n) ∈ news) (hi : IntsAre ws ns) (hne : 0 < ns.length) (hz : ns.length < 2 ^ 20)
    (h : ∀ h' u led' ws', Fr h₀ L h' m → News h₀ L h' led' → (D, listOf ws'.toArray (n + 1)) ∈ led' → IntsAre ws' ns.dropLast → (∀ p ∈ news, p.1 ≠ D → p ∈ led') → (∀ p ∈ led', ∃ q ∈ news, q.1 = p.1) → Q (.int (ns.getD (ns.length - 1) 0) u) { s with heap := h' }) :
    wpAny (model prog w) A (call (.builtin "list.pop") [.ref D]) Q E s := by
  have hl := hi.length
  obtain ⟨u, hu⟩ := hi.get (ns.length - 1) (ns.getD (ns.length - 1) 0) (by
    have : ns.length - 1 < ns.length := by omega
    simp [this])
  have e : ws = ws.take (ns.length - 1) ++ [.int (ns.getD (ns.length - 1) 0) u] := by
    have h1 := List.take_add_one (l := ws) (i := ns.length - 1)
    rw [hu, show ns.length - 1 + 1 = ws.length by omega, List.take_length] at h1
    exact h1
  refine kl_pop (its := ws.toArray) (p := ws.take (ns.length - 1)) (y := .int (ns.getD (ns.length - 1) 0) u) F (news_turnTo N hm) ?_ upd_turnTo (by rw [sizeLine_eq]; simp; omega) fun h' F' N' => ?_
  · have := kllast_of (ws.take (ns.length - 1)) (.int (ns.getD (ns.length - 1) 0) u)
    rw [← e] at this
    exact this
  · refine h h' u _ _ F' N' turnTo_new ?_ (fun p hp hn => turnTo_old hp hn) (fun p hp => turnTo_addr hm hp)
    rw [List.dropLast_eq_take]
    exact IntsAre.take hi
theorem fin_len (st : FSt) : ∀ j, (finishN j st).pcs.length = st.pcs.length + j ∧ (finishN j st).pars = st.pars ∧ (finishN j st).opd.length = st.opd.length - j ∧ (finishN j st).cls.length = st.cls.length + j
  | 0 => ⟨rfl, rfl, rfl, rfl⟩
  | j + 1 => by
    obtain ⟨h1, h2, h3, h4⟩ := fin_len st j
    refine ⟨?_, ?_, ?_, ?_⟩
    · show ((finishN j st).pcs ++ [_]).length = _
      rw [List.length_append, h1, List.length_singleton]; omega
    · exact h2
    · show ((finishN j st).opd.dropLast).length = _
      rw [List.length_dropLast, h3]; omega
    · show ((finishN j st).cls ++ [_]).length = _
      rw [List.length_append, h4, List.length_singleton]; omega
theorem whl_down {prog : Program} {w : World} {A : Around} {E : Value → Shared → Prop} {env : Env} {test : Expr} {body orelse : List Stmt} {Q : Flow → Shared → Prop} (P : Nat → Shared → Prop)
    (step : ∀ k s, P k s → (∀ k' s' f, k' < k → P k' s' → WhlRest prog w A E env test body orelse Q f s') → WhlRest prog w A E env test body orelse Q 0 s) :
    ∀ k s f, P k s → WhlRest prog w A E env test body orelse Q f s := by
  intro k
  induction k using Nat.strongRecOn with
  | _ k ih => exact fun s f h => step k s h fun k' s' f' hk h' => ih k' hk s' f' h'
structure FO (Pi Pa Op Cl : Addr) (rest led : List (Addr × Obj)) (st : FSt) : Prop where
  pcs : ∃ w n, (Pi, listOf w.toArray n) ∈ led ∧ StrsAre w (st.pcs.map pieceS)
  pars : ∃ w n, (Pa, listOf w.toArray n) ∈ led ∧ IntsAre w st.pars
  opd : ∃ w n, (Op, listOf w.toArray n) ∈ led ∧ IntsAre w st.opd
  cls : ∃ w n, (Cl, listOf w.toArray n) ∈ led ∧ IntsAre w st.cls
  keep : ∀ p ∈ rest, p ∈ led
  ne : (@Ne Nat Pi Pa) ∧ (@Ne Nat Pi Op) ∧ (@Ne Nat Pi Cl) ∧ (@Ne Nat Pa Op) ∧ (@Ne Nat Pa Cl) ∧ (@Ne Nat Op Cl)
  off : ∀ p ∈ rest, (@Ne Nat p.1 Pi) ∧ (@Ne Nat p.1 Pa) ∧ (@Ne Nat p.1 Op) ∧ (@Ne Nat p.1 Cl)
section
variable {Pi Pa Op Cl : Addr} {rest led led' : List (Addr × Obj)} {st : FSt}
theorem FO.setPi (S : FO Pi Pa Op Cl rest led st) (hk : ∀ p ∈ led, p.1 ≠ Pi → p ∈ led') {w : List Value} {n : Nat} {x : List (Int × Bool)} (hm : (Pi, listOf w.toArray n) ∈ led') (hi : StrsAre w (x.map pieceS)) : FO Pi Pa Op Cl rest led' { st with pcs := x } := by
  obtain ⟨⟨w1, n1, a1, b1⟩, ⟨w2, n2, a2, b2⟩, ⟨w3, n3, a3, b3⟩, ⟨w4, n4, a4, b4⟩, h5, h6, h7⟩ := S
  obtain ⟨d12, d13, d14, d23, d24, d34⟩ := h6
  exact ⟨⟨w, n, hm, hi⟩, ⟨w2, n2, hk _ a2 (Ne.symm d12), b2⟩, ⟨w3, n3, hk _ a3 (Ne.symm d13), b3⟩, ⟨w4, n4, hk _ a4 (Ne.symm d14), b4⟩, fun p hp => hk _ (h5 p hp) (h7 p hp).1, ⟨d12, d13, d14, d23, d24, d34⟩, h7⟩
theorem FO.setPa (S : FO Pi Pa Op Cl rest led st) (hk : ∀ p ∈ led, p.1 ≠ Pa → p ∈ led') {w : List Value} {n : Nat} {x : List Int} (hm : (Pa, listOf w.toArray n) ∈ led') (hi : IntsAre w x) : FO Pi Pa Op Cl rest led' { st with pars := x } := by
  obtain ⟨⟨w1, n1, a1, b1⟩, ⟨w2, n2, a2, b2⟩, ⟨w3, n3, a3, b3⟩, ⟨w4, n4, a4, b4⟩, h5, h6, h7⟩ := S
  obtain ⟨d12, d13, d14, d23, d24, d34⟩ := h6
  exact ⟨⟨w1, n1, hk _ a1 d12, b1⟩, ⟨w, n, hm, hi⟩, ⟨w3, n3, hk _ a3 (Ne.symm d23), b3⟩, ⟨w4, n4, hk _ a4 (Ne.symm d24), b4⟩, fun p hp => hk _ (h5 p hp) (h7 p hp).2.1, ⟨d12, d13, d14, d23, d24, d34⟩, h7⟩
theorem FO.setOp (S : FO Pi Pa Op Cl rest led st) (hk : ∀ p ∈ led, p.1 ≠ Op → p ∈ led') {w : List Value} {n : Nat} {x : List Int} (hm : (Op, listOf w.toArray n) ∈ led') (hi : IntsAre w x) : FO Pi Pa Op Cl rest led' { st with opd := x } := by
  obtain ⟨⟨w1, n1, a1, b1⟩, ⟨w2, n2, a2, b2⟩, ⟨w3, n3, a3, b3⟩, ⟨w4, n4, a4, b4⟩, h5, h6, h7⟩ := S
  obtain ⟨d12, d13, d14, d23, d24, d34⟩ := h6
  exact ⟨⟨w1, n1, hk _ a1 d13, b1⟩, ⟨w2, n2, hk _ a2 d23, b2⟩, ⟨w, n, hm, hi⟩, ⟨w4, n4, hk _ a4 (Ne.symm d34), b4⟩, fun p hp => hk _ (h5 p hp) (h7 p hp).2.2.1, ⟨d12, d13, d14, d23, d24, d34⟩, h7⟩
theorem FO.setCl (S : FO Pi Pa Op Cl rest led st) (hk : ∀ p ∈ led, p.1 ≠ Cl → p ∈ led') {w : List Value} {n : Nat} {x : List Int} (hm : (Cl, listOf w.toArray n) ∈ led') (hi : IntsAre w x) : FO Pi Pa Op Cl rest led' { st with cls := x } := by
  obtain ⟨⟨w1, n1, a1, b1⟩, ⟨w2, n2, a2, b2⟩, ⟨w3, n3, a3, b3⟩, ⟨w4, n4, a4, b4⟩, h5, h6, h7⟩ := S
  obtain ⟨d12, d13, d14, d23, d24, d34⟩ := h6
  exact ⟨⟨w1, n1, hk _ a1 d14, b1⟩, ⟨w2, n2, hk _ a2 d24, b2⟩, ⟨w3, n3, hk _ a3 d34, b3⟩, ⟨w, n, hm, hi⟩, fun p hp => hk _ (h5 p hp) (h7 p hp).2.2.2, ⟨d12, d13, d14, d23, d24, d34⟩, h7⟩
theorem FO.grow (S : FO Pi Pa Op Cl rest led st) (hk : ∀ p ∈ led, p ∈ led') : FO Pi Pa Op Cl rest led' st := by
  obtain ⟨⟨w1, n1, a1, b1⟩, ⟨w2, n2, a2, b2⟩, ⟨w3, n3, a3, b3⟩, ⟨w4, n4, a4, b4⟩, h5, h6, h7⟩ := S
  exact ⟨⟨w1, n1, hk _ a1, b1⟩, ⟨w2, n2, hk _ a2, b2⟩, ⟨w3, n3, hk _ a3, b3⟩, ⟨w4, n4, hk _ a4, b4⟩, fun p hp => hk _ (h5 p hp), h6, h7⟩
theorem FO.enter (S : FO Pi Pa Op Cl rest led st) {I : Addr} {ito : Obj} (ho : ∀ p ∈ led, p.1 ≠ I) : FO Pi Pa Op Cl ((I, ito) :: rest) ((I, ito) :: led) st := by
  obtain ⟨⟨w1, n1, a1, b1⟩, ⟨w2, n2, a2, b2⟩, ⟨w3, n3, a3, b3⟩, ⟨w4, n4, a4, b4⟩, h5, h6, h7⟩ := S
  refine ⟨⟨w1, n1, .tail _ a1, b1⟩, ⟨w2, n2, .tail _ a2, b2⟩, ⟨w3, n3, .tail _ a3, b3⟩, ⟨w4, n4, .tail _ a4, b4⟩, fun p hp => ?_, h6, fun p hp => ?_⟩
  · rcases List.mem_cons.mp hp with rfl | hp
    · exact .head _
    · exact .tail _ (h5 p hp)
  · rcases List.mem_cons.mp hp with rfl | hp
    · exact ⟨Ne.symm (ho _ a1), Ne.symm (ho _ a2), Ne.symm (ho _ a3), Ne.symm (ho _ a4)⟩
    · exact h7 p hp
theorem FO.endOf {h₀ h : Heap} {L I : Addr} {ito : Obj} (S : FO Pi Pa Op Cl ((I, ito) :: rest) led st) (N : News h₀ L h led) (hr : ∀ p ∈ rest, p.1 ≠ I) :
    ∃ led'', News h₀ L h ((I, ito) :: led'') ∧ (∀ p ∈ led'', p.1 ≠ I) ∧ FO Pi Pa Op Cl rest led'' st := by
  obtain ⟨⟨w1, n1, a1, b1⟩, ⟨w2, n2, a2, b2⟩, ⟨w3, n3, a3, b3⟩, ⟨w4, n4, a4, b4⟩, h5, h6, h7⟩ := S
  obtain ⟨c1, c2, c3, c4⟩ := h7 _ (.head _)
  obtain ⟨N', ho', hk'⟩ := led_end N (h5 _ (.head _))
  exact ⟨_, N', ho', ⟨w1, n1, hk' _ a1 (Ne.symm c1), b1⟩, ⟨w2, n2, hk' _ a2 (Ne.symm c2), b2⟩, ⟨w3, n3, hk' _ a3 (Ne.symm c3), b3⟩, ⟨w4, n4, hk' _ a4 (Ne.symm c4), b4⟩, fun p hp => hk' _ (h5 p (.tail _ hp)) (hr p hp), h6, fun p hp => h7 p (.tail _ hp)⟩
end
example : True := by
  k_with "binaryOp Add str str" => (k_here; refine SBL.add (hsz := ?wkhsz) ?_; (case wkhsz => rw [sizeLine_eq]; omega); intro _ _ _)
  k_with "subscriptTail Name UnaryOp ref int" => (k_here; k_dflt (refine' sub_led_last ?wkN ?wkm ?wki ?wkz ?_; (case wkN => k_asm); (case wkm => k_mem); (case wki => with_reducible assumption); (case wkz => omega)); intro _)
  k_with "call builtin:list.pop" => refine Held.mk ?_
  k_with "exec If" => refine Held.mk ?_
  k_with "eval IfExp" => refine Held.mk ?_
  k_with "WhlRest" => refine Held.mk ?_
  k_with "call type:range" => (k_here; with_unfolding_all refine' range1_rows ?wkkF ?wkkN ?_; (case wkkF => k_asm); (case wkkN => k_asm); intro _ _ _ _ _ _ _ _ _)
  k_with "call builtin:list.append" => (k_here; k_dflt (refine' append_ws ?wkF ?wkN ?wkm ?wkz ?_; (case wkF => k_asm); (case wkN => k_asm); (case wkm => k_mem); (case wkz => first | assumption | omega)); intro _ _ _ _ _ _ _)
  k_with "subscriptTail Name BinOp ref int" => (k_here; k_dflt (refine' sub_led_at ?wkN ?wkm ?wke ?wkv ?wkz ?_; (case wkN => k_asm); (case wkm => k_mem); (case wke => with_reducible assumption); (case wkv => with_reducible assumption); (case wkz => omega)))
  trivial
noncomputable def IfJ (h₀ : Heap) (L : Addr) (s : Shared) (x : Str) (f : Tok → Value) (m : Str → Option Value) (led : List (Addr × Obj)) (fl : Flow) (s' : Shared) : Prop :=
  fl = .next ∧ ∃ h' tk t, s' = { s with heap := h', toks := tk } ∧ Fr h₀ L h' (fun y => if y = x then some (f t) else m y) ∧ News h₀ L h' led
noncomputable def ValJ (h₀ : Heap) (L : Addr) (s : Shared) (f : Tok → Value) (m : Str → Option Value) (led : List (Addr × Obj)) (v : Value) (s' : Shared) : Prop :=
  ∃ h' tk t, v = f t ∧ s' = { s with heap := h', toks := tk } ∧ Fr h₀ L h' m ∧ News h₀ L h' led
theorem if_join {M : Model} {A : Around} {E : Value → Shared → Prop} {s : Shared} {h₀ : Heap} {L : Addr} {t : Sem Flow} {Q : Flow → Shared → Prop} {m : Str → Option Value} {led : List (Addr × Obj)} (x : Str) (f : Tok → Value) (_F : Fr h₀ L s.heap m) (_N : News h₀ L s.heap led)
    (walk : wpAny M A t (IfJ h₀ L s x f m led) E s) (cont : ∀ h' tk t, Fr h₀ L h' (fun y => if y = x then some (f t) else m y) → News h₀ L h' led → Q .next { s with heap := h', toks := tk }) : wpAny M A t Q E s :=
  wpAny_mono walk (fun _ _ ⟨e, h', tk, t, e', F, N⟩ => e ▸ e' ▸ cont h' tk t F N) fun _ _ h => h
theorem val_join {M : Model} {A : Around} {E : Value → Shared → Prop} {s : Shared} {h₀ : Heap} {L : Addr} {t : Sem Value} {Q : Value → Shared → Prop} {m : Str → Option Value} {led : List (Addr × Obj)} (f : Tok → Value) (_F : Fr h₀ L s.heap m) (_N : News h₀ L s.heap led)
    (walk : wpAny M A t (ValJ h₀ L s f m led) E s) (cont : ∀ h' tk t, Fr h₀ L h' m → News h₀ L h' led → Q (f t) { s with heap := h', toks := tk }) : wpAny M A t Q E s :=
  wpAny_mono walk (fun _ _ ⟨h', tk, t, e, e', F, N⟩ => e ▸ e' ▸ cont h' tk t F N) fun _ _ h => h
inductive JF1 (Dr : Addr) (rest : List (Addr × Obj)) (i : Nat) (m : Str → Option Value) (led : List (Addr × Obj)) : Prop
  | mk (wd : List Value) (nd : Nat) (ds : List Int) (t : Tok) (hmd : (Dr, listOf wd.toArray nd) ∈ led) (hid : IntsAre wd ds) (hdl : ds.length = 4) (hd0 : ∀ d ∈ ds, 0 ≤ d) (hk : ∀ p ∈ rest, p ∈ led)
    (hm : Pins m [(Str.ofString "turn", .int (i : Nat) t), (Str.ofString "draws", .ref Dr)]) : JF1 Dr rest i m led
inductive JF2 (Pi Pa Op Cl Mk : Addr) (rest : List (Addr × Obj)) (ds : List Int) (i : Nat) (m : Str → Option Value) (led : List (Addr × Obj)) : Prop
  | mk (S : FO Pi Pa Op Cl rest led ((ds.take i).foldl drawTurn ⟨[], [0], [], []⟩)) (hm : Pins m [(Str.ofString "marks", .ref Mk), (Str.ofString "pieces", .ref Pi), (Str.ofString "parents", .ref Pa), (Str.ofString "opened", .ref Op), (Str.ofString "closed", .ref Cl)]) : JF2 Pi Pa Op Cl Mk rest ds i m led
inductive JF3 (Pi Pa Op Cl Mk : Addr) (rest : List (Addr × Obj)) (st : FSt) (q : Int) (j : Nat) (m : Str → Option Value) (led : List (Addr × Obj)) : Prop
  | mk (t : Tok) (S : FO Pi Pa Op Cl rest led (openN j (st, q)).1) (hm : Pins m [(Str.ofString "rest", .int (openN j (st, q)).2 t), (Str.ofString "marks", .ref Mk), (Str.ofString "pieces", .ref Pi), (Str.ofString "parents", .ref Pa), (Str.ofString "opened", .ref Op), (Str.ofString "closed", .ref Cl)]) : JF3 Pi Pa Op Cl Mk rest st q j m led
inductive JFW (s : Shared) (g' : Heap) (L' Pi Pa Op Cl : Addr) (rest : List (Addr × Obj)) (st : FSt) (k : Nat) (s1 : Shared) : Prop
  | mk (h : Heap) (tk : Nat) (m : Str → Option Value) (led : List (Addr × Obj)) (e : s1 = { s with heap := h, toks := tk }) (F : Fr g' L' h m) (N : News g' L' h led) (S : FO Pi Pa Op Cl rest led (finishN (st.opd.length - k) st))
    (hk : k ≤ st.opd.length) (hm : Pins m [(Str.ofString "pieces", .ref Pi), (Str.ofString "parents", .ref Pa), (Str.ofString "opened", .ref Op), (Str.ofString "closed", .ref Cl)]) : JFW s g' L' Pi Pa Op Cl rest st k s1
section
variable {prog : Program} {w : World} {p : Program} {loose : List Str} {mean : ExcName → Option Value} {mg mb : Str → Option Value}
set_option maxHeartbeats 8000000 in
theorem forestC {dp un : Nat} {gd : Option (List Code)} {cn : Str} {cs : Scope} {a : Addr} {ccd : Value} {cl : List (Str × Addr)} {outer : List Env} {A₀ : Around} {base h₀ : Heap} {L : Addr} {m : Str → Option Value} {s : Shared} {Q E : Value → Shared → Prop} {news : List (Addr × Obj)} {ls : Addr} {wl : List Value} {ss : List Int}
    (B : Below A₀ base outer h₀) (F : Fr h₀ L s.heap m) (X : (Mine.hd.heap_39 w.params).In h₀) (N : News h₀ L s.heap news) (T : Top p loose mean mg mb h₀) (hk : cs.kind = .function)
    (hls : h₀.IsList ls wl.toArray) (hil : IntsAre wl ss) (hlen : ss.length < 64)
    (hd : dp + 20 < recursionLimit) (hu : un + 150 < cLine)
    (hret : ∀ (h' : Heap) (tk' : Nat) (led' : List (Addr × Obj)) (D Pi Pa Cl : Addr) (ds : List Int), ds.length = 4 → (∀ d ∈ ds, 0 ≤ d) → Fr h₀ L h' m → News h₀ L h' led' → (D, ({ cls := .type "tuple", data := .seq #[.ref Pi, .ref Pa, .ref Cl] } : Obj)) ∈ led' →
      (∃ w n, (Pi, listOf w.toArray n) ∈ led' ∧ StrsAre w ((forestOf ds).pcs.map pieceS)) → (∃ w n, (Pa, listOf w.toArray n) ∈ led' ∧ IntsAre w (forestOf ds).pars) → (∃ w n, (Cl, listOf w.toArray n) ∈ led' ∧ IntsAre w (forestOf ds).cls) → (∀ p ∈ news, p ∈ led') → Q (.ref D) { s with heap := h', toks := tk' }) :
    wpAny (model prog w) (ktrTop dp un gd cn cs L a ccd cl outer) (call (.ref 244) [.ref ls]) Q E s := by
  refine wpAny_call ?_
  k_dflt (refine' code_def ?k1 ?k2 ?k3 ?k4 ?k5 ?kA ?kF ?kK ?k6 ?k7 ?k8 ?k9 ?kB ?_ ?c2 ?c3 ?c4 ?c5; (case kA => exact rfl); (case kF => exact rfl); (case kK => first | assumption | exact rfl); (case k1 => k_asm); (case k2 => k_asm); (case k3 => k_asm); (case k4 => k_asm); (case k5 => k_asm); (case k6 => k_is); (case k7 => k_is); (case k8 => ktr_room); (case k9 => first | exact BindsTo.of_eq rfl | exact binds_K (by k_in) rfl (by k_is) rfl rfl rfl | (refine' kp_binds ?kx ?ke; (case kx => k_in); (case ke => exact fun _ => rfl)) | fail "x_enter: no rule for these arguments"); (case c5 => decide); (case kB => exact locs rfl); (case c2 => exact rfl); (case c3 => exact rfl); (case c4 => exact rfl); k_whole; intro g' L' h' FG' F' N' B' X' T'; (try dsimp only); (try k_lift B'); (try k_fold))
  have hls' : g'.IsList ls wl.toArray := hls.at fun o e => FG'.keep _ o e
  k_steps
  rename_i Dr _ lDr _ _ Ds wds _ F1 N1 hiS hcS hlS lDs
  have hnl : ∀ p ∈ news, p.1 < Dr := lDr
  have hns : ∀ p ∈ news, p.1 < Ds := ktn_ltOf lDs.2
  have hwl : wds.length = (ss.take 24).length := hiS.length
  refine Held.out ?_
  refine iter_led (J := JF1 Dr ((Ds, listOf wds.toArray 0) :: news)) rfl F1 N1 (.head _) ?_ ?_ ?_ ?_
  · refine ⟨_, _, [172, 107, 6, 13], _, .tail _ (.head _), ?_, rfl, by decide, fun p hp => ?_, .cons rfl (.cons rfl .nil)⟩
    · exact .cons _ _ (.cons _ _ (.cons _ _ (.cons _ _ .nil)))
    · rcases List.mem_cons.mp hp with rfl | hp
      · exact .head _
      · exact .tail _ (.tail _ hp)
  · rintro i m led ⟨wd, nd, ds, t, _, _, _, _, hk, _⟩
    exact hk _ (.head _)
  · clear N1 F1
    intro i v m₁ led₁ h tk I ito hv hJ9 ho F2 N2
    obtain ⟨wd, nd, ds, t, hmd, hid, hdl, hd0, hk, hm1⟩ := hJ9
    obtain ⟨x, hx, tx, rfl⟩ : ∃ x, (ss.take 24)[i]? = some x ∧ ∃ tx, v = .int x tx := by
      cases hxj : (ss.take 24)[i]? with
      | none =>
        have := List.getElem?_eq_none_iff.mp hxj
        rw [List.getElem?_eq_none (by rw [hwl]; exact this)] at hv
        cases hv
      | some x =>
        obtain ⟨t, ht⟩ := hiS.get i x hxj
        rw [ht] at hv
        cases hv
        exact ⟨x, rfl, t, rfl⟩
    have hq0 : 0 ≤ Int.fmod (i : Int) 4 := Int.fmod_nonneg_of_pos _ (by decide)
    have hq1 : Int.fmod (i : Int) 4 < 4 := Int.fmod_lt_of_pos _ (by decide)
    replace F2 : Fr g' L' h _ := fr_pins F2 (hm1.skip (.cons (by decide) (.cons (by decide) .nil)))
    replace N2 : News g' L' h _ := N2
    k_steps
    rename_i _ hd9 led9 ws9 hm9 hi9 hk9 ha9 _ F9 N9
    have hI := hk9 _ (.head _) (Ne.symm (ho _ hmd))
    obtain ⟨N10, ho10, hk10⟩ := led_end N9 hI
    refine TEnd.mk' F9 N10 ho10 ⟨_, _, _, _, hk10 _ hm9 (show Dr ≠ I from ho _ hmd), hi9, by rw [List.length_set]; exact hdl, fun d hd => ?_, fun p hp => hk10 _ (hk9 _ (.tail _ (hk p hp)) ?_) (ho p (hk p hp)), .cons rfl (.cons rfl .nil)⟩
    · rcases List.mem_or_eq_of_mem_set hd with h | rfl
      · exact hd0 d h
      · have h1 : 0 ≤ ds.getD (Int.fmod (i : Int) 4).toNat 0 := hd0 _ (by
          have h2 : (Int.fmod (i : Int) 4).toNat < ds.length := by omega
          have e : ds.getD (Int.fmod (i : Int) 4).toNat 0 = ds[(Int.fmod (i : Int) 4).toNat] := by simp [h2]
          rw [e]; exact List.getElem_mem h2)
        have h2 : 0 ≤ Int.fmod x 1000000 := Int.fmod_nonneg_of_pos _ (by decide)
        omega
    · rcases List.mem_cons.mp hp with rfl | hp
      · exact Nat.ne_of_gt lDs.1
      · exact Nat.ne_of_lt (hnl p hp)
  · intro m₁ led₁ h tk hJ9 F2 N2
    obtain ⟨wd, nd, ds, t, hmd, hid, hdl, hd0, hk, hm1⟩ := hJ9
    replace F2 : Fr g' L' h _ := fr_pins F2 hm1
    replace N2 : News g' L' h _ := N2
    clear N1 F1
    k_steps
    rename_i Mk _ lMk _ Pi _ lPi _ Pa _ lPa _ Op _ lOp _ Cl _ lCl _ F3 N3
    obtain ⟨wm, wpa, hwm, hpa, N4⟩ : ∃ wm wpa, StrsAre wm markL ∧ IntsAre wpa [0] ∧ News g' L' _ ((Cl, listOf #[] 0) :: (Op, listOf #[] 0) :: (Pa, listOf wpa.toArray 0) :: (Pi, listOf #[] 0) :: (Mk, listOf wm.toArray 0) :: led₁) :=
      ⟨_, _, .cons _ _ (.cons _ _ (.cons _ _ (.cons _ _ .nil))), .cons _ _ .nil, N3⟩
    clear N3
    have bM : ∀ p ∈ led₁, p.1 < Mk := lMk
    obtain ⟨b1, b2⟩ := lPi
    obtain ⟨c1, c2, c3⟩ := lPa
    obtain ⟨d1, d2, d3, d4⟩ := lOp
    obtain ⟨e1, e2, e3, e4, e5⟩ := lCl
    have S0 : FO Pi Pa Op Cl ((Mk, listOf wm.toArray 0) :: led₁) ((Cl, listOf #[] 0) :: (Op, listOf #[] 0) :: (Pa, listOf wpa.toArray 0) :: (Pi, listOf #[] 0) :: (Mk, listOf wm.toArray 0) :: led₁) ⟨[], [0], [], []⟩ := by
      refine ⟨⟨[], 0, .tail _ (.tail _ (.tail _ (.head _))), .nil⟩, ⟨wpa, 0, .tail _ (.tail _ (.head _)), hpa⟩, ⟨[], 0, .tail _ (.head _), .nil⟩, ⟨[], 0, .head _, .nil⟩, fun p hp => .tail _ (.tail _ (.tail _ (.tail _ hp))), ?_, ?_⟩
      · exact ⟨Nat.ne_of_lt c1, Nat.ne_of_lt d2, Nat.ne_of_lt e3, Nat.ne_of_lt d1, Nat.ne_of_lt e2, Nat.ne_of_lt e1⟩
      · intro p hp
        have hm : p.1 ≤ Mk := by
          rcases List.mem_cons.mp hp with rfl | hp
          · exact Nat.le_refl _
          · exact Nat.le_of_lt (bM p hp)
        exact ⟨Nat.ne_of_lt (Nat.lt_of_le_of_lt hm b1), Nat.ne_of_lt (Nat.lt_of_le_of_lt hm c2), Nat.ne_of_lt (Nat.lt_of_le_of_lt hm d3), Nat.ne_of_lt (Nat.lt_of_le_of_lt hm e4)⟩
    refine Held.out ?_
    have hwdl : wd.length = ds.length := hid.length
    refine iter_led (J := JF2 Pi Pa Op Cl Mk ((Mk, listOf wm.toArray 0) :: led₁) ds) rfl F3 N4 (.tail _ (.tail _ (.tail _ (.tail _ (.tail _ hmd))))) ?_ ?_ ?_ ?_
    · exact ⟨S0, .cons rfl (.cons rfl (.cons rfl (.cons rfl (.cons rfl .nil))))⟩
    · rintro i m led ⟨S, _⟩
      exact S.keep _ (.tail _ hmd)
    · clear N4 F3 S0
      intro i v m₂ led₂ h tk I ito hv hJ9 ho F5 N5
      obtain ⟨S, hm1⟩ := hJ9
      obtain ⟨d, hdi, td, rfl⟩ : ∃ d, ds[i]? = some d ∧ ∃ td, v = .int d td := by
        cases hxj : ds[i]? with
        | none =>
          have := List.getElem?_eq_none_iff.mp hxj
          rw [List.getElem?_eq_none (by rw [hwdl]; exact this)] at hv
          cases hv
        | some x =>
          obtain ⟨t, ht⟩ := hid.get i x hxj
          rw [ht] at hv
          cases hv
          exact ⟨x, rfl, t, rfl⟩
      have hd0' := hd0 d (List.mem_of_getElem? hdi)
      generalize hst : (ds.take i).foldl drawTurn ⟨[], [0], [], []⟩ = st at S
      have S1 := S.enter (ito := ito) ho
      replace F5 : Fr g' L' h _ := fr_pins F5 (hm1.skip (.cons (by decide) (.cons (by decide) (.cons (by decide) (.cons (by decide) (.cons (by decide) .nil))))))
      replace N5 : News g' L' h _ := N5
      obtain ⟨wo, no, hmo, hio⟩ := S1.opd
      have hml := mid_len (ds.take i) ⟨[], [0], [], []⟩
      rw [hst] at hml
      have hil4 : i < 4 := by rw [← hdl]; exact (List.getElem?_eq_some_iff.mp hdi).1
      have hitk : (ds.take i).length ≤ 4 := by rw [List.length_take]; omega
      obtain ⟨ml1, ml2, ml3, ml4⟩ := hml
      simp only [List.length_nil, List.length_cons] at ml1 ml2 ml3 ml4
      replace ml1 : st.pcs.length ≤ 16 := by omega
      replace ml2 : st.pars.length ≤ 13 := by omega
      replace ml3 : st.opd.length ≤ 12 := by omega
      have hx1 : (Str.ofString "(").length = 1 := by decide
      have hx2 : (Str.ofString ")").length = 1 := by decide
      have hf0 : 0 ≤ Int.fmod d 3 := Int.fmod_nonneg_of_pos _ (by decide)
      have hf1 : Int.fmod d 3 < 3 := Int.fmod_lt_of_pos _ (by decide)
      k_steps
      refine Held.out ?_
      rename Fr _ _ _ _ => F6
      rename News _ _ _ _ => N6
      refine if_join (Str.ofString "count") (fun t => .int (countOf st d) t) F6 N6 ?walk ?cont
      case walk =>
        refine wpAny_If ?_
        k_steps
        · rename (decide (st.opd = []) = true) => hop
          rename Fr _ _ _ _ => F7
          rename News _ _ _ _ => N7
          exact ⟨rfl, _, _, _, rfl, by unfold countOf; rw [if_pos (of_decide_eq_true hop)]; exact F7, fun p hp => N7 p (.tail _ hp)⟩
        · rename (decide (st.opd = []) = false) => hop
          rename Fr _ _ _ _ => F7
          rename News _ _ _ _ => N7
          exact ⟨rfl, _, _, _, rfl, fr_pin F7 (by unfold countOf; rw [if_neg (of_decide_eq_false hop), Int.add_zero]; rfl), fun p hp => N7 p (.tail _ hp)⟩
      case cont =>
        intro h7 tk7 t7 F7 N7
        clear F6 N6
        k_steps
        have hcl := count_le st d
        have hcn : (countOf st d).toNat ≤ 3 := by omega
        rename IsRange _ _ _ _ _ _ _ _ => hrg
        rename Fr _ _ _ _ => F6
        rename News _ _ _ _ => N6
        have S2 := S1
        refine Held.out ?_
        refine iter_rg (n := (countOf st d).toNat) (J := JF3 Pi Pa Op Cl Mk ((I, ito) :: (Mk, listOf wm.toArray 0) :: led₁) st (Int.fdiv d 3)) rfl hrg (small_one (by omega) (by omega) (by omega) (by omega)) (by rw [rangeSize_one]; split <;> omega) F6 N6 ?_ ?_ ?_
        · exact ⟨_, S2, .cons rfl (.cons rfl (.cons rfl (.cons rfl (.cons rfl (.cons rfl .nil)))))⟩
        · clear S2 F6 N6 hrg
          intro j u m₃ led₃ h3 tk3 I3 ito3 hj hJ9 ho3 F7 N7
          obtain ⟨t3, S3, hm1⟩ := hJ9
          have S4 := S3.enter (ito := ito3) ho3
          have hol := openN_len st (Int.fdiv d 3) j
          generalize hq : openN j (st, Int.fdiv d 3) = q at hm1 S4 hol
          obtain ⟨hol1, hol2, hol3, hol4⟩ := hol
          replace F7 : Fr g' L' h3 _ := fr_pins F7 (hm1.skip (.cons (by decide) (.cons (by decide) (.cons (by decide) (.cons (by decide) (.cons (by decide) (.cons (by decide) .nil)))))))
          replace N7 : News g' L' h3 _ := N7
          obtain ⟨wp3, np3, hmp3, hip3⟩ := S4.pcs
          have hr0 : 0 ≤ Int.fmod q.2 4 := Int.fmod_nonneg_of_pos _ (by decide)
          have hr1 : Int.fmod q.2 4 < 4 := Int.fmod_lt_of_pos _ (by decide)
          have hek : Int.fmod q.2 4 = (((Int.fmod q.2 4).toNat : Nat) : Int) := by omega
          have hmk3 : (Mk, listOf wm.toArray 0) ∈ led₃ := S3.keep _ (.tail _ (.head _))
          obtain ⟨tmk, hvk⟩ := hwm.at (j := (Int.fmod q.2 4).toNat) (y := markL.getD (Int.fmod q.2 4).toNat Str.empty) (by
            have hlt : (Int.fmod q.2 4).toNat < markL.length := by show _ < 4; omega
            rw [List.getElem?_eq_getElem hlt]; simp [hlt])
          have hz2 : (Int.fmod q.2 4).toNat < 2 ^ 20 := by omega
          have hmkl := markL_le (Int.fmod q.2 4).toNat
          have hwpl : wp3.length < 2 ^ 20 := by rw [hip3.len_eq, List.length_map]; omega
          k_steps
          rename_i _ led5 hm5 hk5 ha5 _ _ _
          have S5 := S4.setPi (x := q.1.pcs ++ [(Int.fmod q.2 4, true)]) hk5 hm5 (by rw [List.map_append]; exact StrsAre.appendS hip3 _ _)
          obtain ⟨wo3, no3, hmo3, hio3⟩ := S5.opd
          obtain ⟨wa3, na3, hma3, hia3⟩ := S5.pars
          dsimp only at hio3 hia3
          have hol' := hio3.length
          have hal' := hia3.length
          have hwol : wo3.length < 2 ^ 20 := by omega
          have hwal : wa3.length < 2 ^ 20 := by omega
          refine Held.out ?_
          k_steps
          refine Held.out ?_
          rename Fr _ _ _ _ => F8
          rename News _ _ _ _ => N8
          refine val_join (fun t => .int (if q.1.opd = [] then 0 else q.1.opd.getD (q.1.opd.length - 1) 0) t) F8 N8 ?walk ?cont
          case walk =>
            refine wpAny_IfExp ?_
            by_cases hopq : q.1.opd = []
            · have hopl : decide (q.1.opd = []) = true := decide_eq_true hopq
              k_steps
              rename Fr _ _ _ _ => F9
              rename News _ _ _ _ => N9
              exact ⟨_, _, _, by rw [if_pos hopq], rfl, F9, fun p hp => N9 p (.tail _ hp)⟩
            · have hopl : 0 < q.1.opd.length := List.length_pos_iff.mpr hopq
              k_steps
              rename Fr _ _ _ _ => F9
              rename News _ _ _ _ => N9
              exact ⟨_, _, _, by rw [if_neg hopq], rfl, F9, fun p hp => N9 p (.tail _ hp)⟩
          case cont =>
            intro h8 tk8 t8 F8' N8'
            clear F8 N8
            k_steps
            rename_i h8 led6 F8 N8 hm6 hk6 ha6
            have S6 := S5.setPa hk6 hm6 (IntsAre.append hia3 (.cons _ _ .nil))
            obtain ⟨wo4, no4, hmo4, hio4⟩ := S6.opd
            obtain ⟨wa4, na4, hma4, hia4⟩ := S6.pars
            dsimp only at hio4 hia4
            have hol4 := hio4.length
            have hal4 := hia4.length
            rw [List.length_append, List.length_singleton] at hal4
            have hwol4 : wo4.length < 2 ^ 20 := by omega
            have hwal4 : wa4.length < 2 ^ 20 := by omega
            refine Held.out ?_
            k_steps
            rename_i _ led9 F9 N9 hm9 hk9 ha9
            have S7 := S6.setOp hk9 hm9 (IntsAre.appendI hio4 (y := (q.1.pars.length : Int)) (by first | omega | (rw [List.length_append, List.length_singleton]; omega)))
            obtain ⟨led10, N10, ho10, S10⟩ := S7.endOf N9 fun p hp => ho3 p (S3.keep p hp)
            have eq9 : openN (j + 1) (st, Int.fdiv d 3) = openStep q := by rw [← hq]; rfl
            refine TEnd.mk' F9 N10 ho10 ⟨_, ?_, .cons (by rw [eq9]; rfl) (.cons rfl (.cons rfl (.cons rfl (.cons rfl (.cons rfl .nil)))))⟩
            rw [eq9]
            unfold openStep
            exact S10
        · clear S2 F6 N6 hrg
          intro m₃ led₃ h3 tk3 hJ9 F7 N7
          obtain ⟨t3, S3, hm1⟩ := hJ9
          have hol := openN_len st (Int.fdiv d 3) (countOf st d).toNat
          have hpos : 0 < st.opd.length + (countOf st d).toNat := by
            rcases Nat.eq_zero_or_pos st.opd.length with h | h
            · have e : countOf st d = Int.fmod d 3 + 1 := by unfold countOf; rw [if_pos (List.length_eq_zero_iff.mp h)]
              omega
            · omega
          have hdt : drawTurn st d = shut (openN (countOf st d).toNat (st, Int.fdiv d 3)) := rfl
          generalize hq : openN (countOf st d).toNat (st, Int.fdiv d 3) = q at hm1 S3 hol hdt
          obtain ⟨hol1, hol2, hol3, hol4⟩ := hol
          replace F7 : Fr g' L' h3 _ := fr_pins F7 hm1
          replace N7 : News g' L' h3 _ := N7
          obtain ⟨wp3, np3, hmp3, hip3⟩ := S3.pcs
          have hr0 : 0 ≤ Int.fmod q.2 4 := Int.fmod_nonneg_of_pos _ (by decide)
          have hr1 : Int.fmod q.2 4 < 4 := Int.fmod_lt_of_pos _ (by decide)
          have hek : Int.fmod q.2 4 = (((Int.fmod q.2 4).toNat : Nat) : Int) := by omega
          have hmk3 : (Mk, listOf wm.toArray 0) ∈ led₃ := S3.keep _ (.tail _ (.head _))
          obtain ⟨tmk, hvk⟩ := hwm.at (j := (Int.fmod q.2 4).toNat) (y := markL.getD (Int.fmod q.2 4).toNat Str.empty) (by
            have hlt : (Int.fmod q.2 4).toNat < markL.length := by show _ < 4; omega
            rw [List.getElem?_eq_getElem hlt]; simp [hlt])
          have hz2 : (Int.fmod q.2 4).toNat < 2 ^ 20 := by omega
          have hmkl := markL_le (Int.fmod q.2 4).toNat
          have hwpl : wp3.length < 2 ^ 20 := by rw [hip3.len_eq, List.length_map]; omega
          k_steps
          rename_i _ led5 F5 N5 hm5 hk5 ha5
          have S5 := S3.setPi (x := q.1.pcs ++ [(Int.fmod q.2 4, false)]) hk5 hm5 (by rw [List.map_append]; exact StrsAre.appendS hip3 _ _)
          obtain ⟨wo3, no3, hmo3, hio3⟩ := S5.opd
          obtain ⟨wc0, nc0, hmc0, hic0⟩ := S5.cls
          dsimp only at hio3
          have hol' := hio3.length
          refine Held.out ?_
          k_steps
          refine Held.out ?_
          k_dflt (refine' pop_last ?F ?N hmo3 hio3 ?z1 ?z2 ?_; (case F => k_asm); (case N => k_asm); (case z1 => omega); (case z2 => omega))
          intro h6 u6 led6 ws6 F6 N6 hm6 hi6 hk6 ha6
          have S6 := S5.setOp hk6 hm6 hi6
          obtain ⟨wc3, nc3, hmc3, hic3⟩ := S6.cls
          dsimp only at hic3
          have hcl3 := hic3.length
          have hwcl : wc3.length < 2 ^ 20 := by rw [hcl3, hol4]; omega
          k_steps
          rename_i _ led9 F9 N9 hm9 hk9 ha9
          have S7 := S6.setCl hk9 hm9 (IntsAre.appendI hic3 rfl)
          obtain ⟨led10, N10, ho10, S10⟩ := S7.endOf N9 fun p hp => ho p (S.keep p hp)
          refine TEnd.mk' F9 N10 ho10 ⟨?_, .cons rfl (.cons rfl (.cons rfl (.cons rfl (.cons rfl .nil))))⟩
          rw [List.take_add_one, hdi, List.foldl_append, hst]
          show FO Pi Pa Op Cl _ led10 (drawTurn st d)
          rw [hdt]
          exact S10
    · intro m₂ led₂ h tk hJ9 F5 N5
      obtain ⟨S, hm1⟩ := hJ9
      rw [hwdl, List.take_length] at S
      generalize hst : ds.foldl drawTurn ⟨[], [0], [], []⟩ = st at S
      have hml := mid_len ds ⟨[], [0], [], []⟩
      rw [hst, hdl] at hml
      obtain ⟨ml1, ml2, ml3, ml4⟩ := hml
      simp only [List.length_nil, List.length_cons] at ml1 ml2 ml3 ml4
      replace ml1 : st.pcs.length ≤ 16 := by omega
      replace ml2 : st.pars.length ≤ 13 := by omega
      replace ml3 : st.opd.length ≤ 12 := by omega
      replace F5 : Fr g' L' h _ := fr_pins F5 hm1
      replace N5 : News g' L' h _ := N5
      obtain ⟨wo, no, hmo, hio⟩ := S.opd
      clear S0 N4 F3
      clear hmo hio
      k_steps
      refine Held.out ?_
      refine whl_down (fun k s1 => JFW s g' L' Pi Pa Op Cl ((Mk, listOf wm.toArray 0) :: led₁) st k s1) ?_ st.opd.length _ _ ⟨_, _, _, _, rfl, F5, N5, by rw [Nat.sub_self]; exact S, Nat.le_refl _, .cons rfl (.cons rfl (.cons rfl (.cons rfl .nil)))⟩
      clear S F5 N5
      rintro k s1 ⟨h, tk, m₃, led₃, rfl, F5, N5, S, hk1, hm2⟩ ih
      have hfl := fin_len st (st.opd.length - k)
      generalize hfs : finishN (st.opd.length - k) st = fs at S hfl
      obtain ⟨hfl1, hfl2, hfl3, hfl4⟩ := hfl
      replace F5 : Fr g' L' h _ := fr_pins F5 hm2
      replace N5 : News g' L' h _ := N5
      obtain ⟨wo, no, hmo, hio⟩ := S.opd
      k_dflt (refine' whl_turn (k := 0) ?hE ?_; (case hE => passes_own))
      k_steps
      rename Fr _ _ _ _ => F6
      rename News _ _ _ _ => N6
      rcases Nat.eq_zero_or_pos k with hk0 | hk0
      · have hop : fs.opd = [] := List.length_eq_zero_iff.mp (by omega)
        refine WhlIf.no (by rw [decide_eq_true hop]; rfl) ?_
        k_steps
        have efs : forestOf ds = fs := by
          rw [← hfs, hk0, Nat.sub_zero, ← hst]
          rfl
        rw [← efs] at S
        refine hret _ _ _ _ Pi Pa Cl ds hdl hd0 (by k_asm) (by k_asm) (.head _) ?_ ?_ ?_ (fun p hp => .tail _ (.tail _ (S.keep _ (.tail _ (hk _ (.tail _ hp))))))
        · obtain ⟨w1, n1, a1, b1⟩ := S.pcs
          exact ⟨w1, n1, .tail _ (.tail _ a1), b1⟩
        · obtain ⟨w1, n1, a1, b1⟩ := S.pars
          exact ⟨w1, n1, .tail _ (.tail _ a1), b1⟩
        · obtain ⟨w1, n1, a1, b1⟩ := S.cls
          exact ⟨w1, n1, .tail _ (.tail _ a1), b1⟩
      · have hop : 0 < fs.opd.length := by omega
        refine WhlIf.yes (by rw [decide_eq_false (fun e => by rw [e] at hop; exact absurd hop (Nat.lt_irrefl 0))]; rfl) ?_
        obtain ⟨e6, N6'⟩ : ∃ e, News g' L' _ (e :: led₃) := ⟨_, N6⟩
        clear N6
        have S1 := S.grow (led' := e6 :: led₃) fun p hp => .tail _ hp
        obtain ⟨wp3, np3, hmp3, hip3⟩ := S1.pcs
        have hwpl : wp3.length < 2 ^ 20 := by rw [hip3.len_eq, List.length_map]; omega
        k_steps
        rename_i _ led5 F5 N5 hm5 hk5 ha5
        have S5 := S1.setPi (x := fs.pcs ++ [(Int.fmod 0 4, false)]) hk5 hm5 (by rw [List.map_append]; exact StrsAre.appendS hip3 _ _)
        obtain ⟨wo3, no3, hmo3, hio3⟩ := S5.opd
        obtain ⟨wc0, nc0, hmc0, hic0⟩ := S5.cls
        dsimp only at hio3
        have hol' := hio3.length
        refine Held.out ?_
        k_steps
        refine Held.out ?_
        k_dflt (refine' pop_last ?F ?N hmo3 hio3 ?z1 ?z2 ?_; (case F => k_asm); (case N => k_asm); (case z1 => omega); (case z2 => omega))
        intro h6 u6 led6 ws6 F6 N6 hm6 hi6 hk6 ha6
        have S6 := S5.setOp hk6 hm6 hi6
        obtain ⟨wc3, nc3, hmc3, hic3⟩ := S6.cls
        dsimp only at hic3
        have hcl3 := hic3.length
        have hwcl : wc3.length < 2 ^ 20 := by omega
        k_steps
        rename_i _ led9 F9 N9 hm9 hk9 ha9
        have S7 := S6.setCl hk9 hm9 (IntsAre.appendI hic3 rfl)
        refine Held.out (ih (k - 1) _ _ (by omega) ⟨_, _, _, _, rfl, F9, N9, ?_, by omega, .cons rfl (.cons rfl (.cons rfl (.cons rfl .nil)))⟩)
        rw [show st.opd.length - (k - 1) = st.opd.length - k + 1 by omega]
        show FO Pi Pa Op Cl _ led9 (shut (finishN (st.opd.length - k) st, 0))
        rw [hfs]
        exact S7
end
end XForest
section XBarr
set_option maxRecDepth 100000

example : True := by
  k_with_none
  trivial

open Sem (wp)
theorem ba_mro : mroOf (.type "bytearray") = pure [.type "bytearray", .type "object"] := by rw [mroOf_type]; kernel_rfl
theorem ba_lookup_new : typeLookup (.type "bytearray") "__new__" = pure (some (.builtin "bytearray.__new__")) := by rw [typeLookup_type, builtinLookup_eq_fast]; kernel_rfl
theorem ba_slot_init : Slot "bytearray" "__init__" "bytearray.__init__" :=
  .of (owner := "bytearray") (n := "__init__") (by rw [typeLookup_type, builtinLookup_eq_fast]; kernel_rfl) (by decide +kernel) (by decide +kernel) (by decide +kernel)
    (by first | exact .inl (by decide +kernel) | exact .inr (by decide +kernel)) (by rw [isSubtype_type]; kernel_rfl)
theorem ba_called : TypeCalled "bytearray" "bytearray.__new__" "bytearray.__init__" :=
  ⟨by decide +kernel, by decide +kernel, ⟨_, _, ba_mro⟩, madeBy_type ba_mro ba_lookup_new (by decide +kernel), by decide +kernel, by rw [isSubtype_type]; kernel_rfl, ba_slot_init⟩
theorem ba_typeCall (a : Value) : checkTypeCall "bytearray" ⟨[a], []⟩ = pure () := by kernel_rfl
theorem ba_newCall (a : Value) : checkBuiltinCall "bytearray.__new__" ⟨[.type "bytearray", a], []⟩ = pure () := by kernel_rfl
theorem ba_entry_new : entryFor table "bytearray.__new__" = some Builtin.«list.__new__» := entryFor_alias (id' := "list.__new__") (by kernel_rfl) (by first | rfl | decide +kernel) (by decide +kernel) (by kernel_rfl)
theorem ba_entry_init : entryFor table "bytearray.__init__" = some Builtin.«bytearray.__init__» := by first | exact entryFor_of_tree (by kernel_rfl) | exact entryFor_of_fast (by kernel_rfl)
theorem ba_plain_new : plainId "bytearray.__new__" = true := by decide +kernel
theorem ba_plain_init : plainId "bytearray.__init__" = true := by decide +kernel
theorem ba_sub_self : isSubtype (.type "bytearray") (.type "bytearray") = pure true := by rw [isSubtype_type]; kernel_rfl
set_option maxRecDepth 1000000 in
set_option maxHeartbeats 4000000 in
theorem ba_owner_new : ("bytearray.__new__".splitOn ".__new__").headD "" = "bytearray" := by simp +decide [String.splitOn, String.splitOnAux]
theorem ba_bind (S v : Value) : Builtin.Bytes.bindOptional "bytearray.__init__" "bytearray" ["source", "encoding", "errors"] [v] [] = pure [some v, none, none] := by kernel_rfl
theorem ba_rel : typeLookup (.type "bytearray") "__release_buffer__" = pure (some (.builtin "bytearray.__release_buffer__")) := by rw [typeLookup_type, builtinLookup_eq_fast]; kernel_rfl
theorem ba_int_index : typeLookup (.type "int") "__index__" = pure (some (.builtin "int.__index__")) := by rw [typeLookup_type, builtinLookup_eq_fast]; kernel_rfl
theorem ba_args (a b : Value) : argsOk "bytearray.__init__" ⟨[a, b], []⟩ := by
  unfold argsOk; rw [signature?_of (id := "bytearray.__init__") (n := ['_', '_', 't', 'i', 'n', 'i', '_', '_']) (o := "bytearray".toList.reverse) (by kernel_rfl) (show Manifest.owners.lookup _ = some Manifest.sig_bytearray by kernel_rfl)]; kernel_rfl
section
variable {prog : Program} {w : World} {A : Around} {E : Value → Shared → Prop} {s : Shared}
theorem code_ba_new (a : Value) {Q₁ : Value → Shared → Prop}
    (h : Q₁ (.ref s.heap.objs.size) { s with heap := s.heap.push { cls := .type "bytearray", data := .bytearray #[] } }) :
    codeAny (model prog w) A (.call (.builtin "bytearray.__new__") ⟨[.type "bytearray", a], []⟩) (wants Q₁ E) s := by
  refine codeAny_of_tree ?_
  show wpAny _ A.in1 (do checkBuiltinCall "bytearray.__new__" ⟨[.type "bytearray", a], []⟩; again (.builtin "bytearray.__new__" ⟨[.type "bytearray", a], []⟩)) _ _ s
  refine wpAny_bind (wpAny_of_eq (ba_newCall a) (wpAny_pure ⟨plainId_quiet ba_plain_new _, codeAny_builtin_stack ba_entry_new rfl fun p st => ?_⟩))
  rw [Around.under_plainId ba_plain_new _]
  have hsub := ba_sub_self
  have hown := ba_owner_new
  obtain ⟨hp, g, d, tk, os⟩ := s
  simp only [hown]
  wp_walk
  exact h
theorem clean_type_call {args : Args} : Clean (.builtin "type.__call__" args) := fun v p => by
  obtain ⟨pos, kw⟩ := args
  cases pos with
  | nil => kernel_rfl
  | cons v' r =>
    have e : holdsB v (.builtin "type.__call__" ⟨v' :: r, kw⟩, p) = (Builtin.Bytes.sameRef v' v && Builtin.Bytes.decodersThatHold.contains "type.__call__") := by kernel_rfl
    exact e.trans (Bool.and_eq_false_imp.mpr fun _ => by decide +kernel)
theorem clean_ba_init {args : Args} : Clean (.builtin "bytearray.__init__" args) := fun v p => by
  obtain ⟨pos, kw⟩ := args
  cases pos with
  | nil => kernel_rfl
  | cons v' r =>
    have e : holdsB v (.builtin "bytearray.__init__" ⟨v' :: r, kw⟩, p) = (Builtin.Bytes.sameRef v' v && Builtin.Bytes.decodersThatHold.contains "bytearray.__init__") := by kernel_rfl
    exact e.trans (Bool.and_eq_false_imp.mpr fun _ => by decide +kernel)
theorem callTypeC {T newId initId : String} {Bi : Builtin} {args : List Value} {Q Q₁ : Value → Shared → Prop} (ft : TypeCalled T newId initId)
    (hct : checkTypeCall T ⟨args, []⟩ = pure ()) (entryI : entryFor table initId = some Bi) (hdi : ∀ args, Clean (.builtin initId args))
    (hnew : codeAny (model prog w) A.in1 (.call (.builtin newId) ⟨.type T :: args, []⟩) (wants Q₁ E) s)
    (hnext : ∀ obj s₁, Q₁ obj s₁ → s₁.TypeIs obj T ∧ argsOk initId ⟨obj :: args, []⟩ ∧
      wpC (model prog w) A.in1.in1 (Bi ⟨obj :: args, []⟩)
        (fun fin s' => match fin with | .done f => wants (fun r s₂ => r = .none ∧ Q obj s₂) E (.ok f) s' | .again c' => c'.quiet = true ∧ codeC (model prog w) A.in1 c' (wants (fun r s₂ => r = .none ∧ Q obj s₂) E) s')
        (fun e s' => wants (fun r s₂ => r = .none ∧ Q obj s₂) E (.error e) s') s₁) :
    wpC (model prog w) A (call (.type T) args) Q E s := by
  obtain ⟨c, tl, hmro⟩ := ft.mro
  have hmade := ft.made
  have hsub := ft.sub
  refine wpC_call (codeC_of_tree clean_call ?_)
  show wpC _ _ (callAny (.type T) _) _ _ _
  refine wpC_pure ⟨Code.quiet_builtin _ (by decide +kernel), codeC_builtin clean_type_call F.entry_type_call ?_⟩
  rw [Around.under_plain (weight_type_call_type T args []) rfl]
  have h1 := ft.notType
  have h2 := ft.canCreate
  unfold Builtin.«type.__call__»
  dsimp only
  simp only [h1, Bool.false_eq_true, if_false]
  simp only [h2, Bool.false_eq_true, if_false, hct, hmro, hmade, pure_bind, List.isEmpty_cons]
  refine wpC_step (wpAny_holding (wpAny_call (codeAny_mono hnew fun r s₁ hr => ?_)))
  cases r with
  | error e => exact hr
  | ok fl =>
    cases fl with
    | ret obj =>
      obtain ⟨hT, hok, hsi⟩ := hnext _ _ hr
      have hli := ft.init.lookup
      have hbi := ft.init.bind obj
      refine wpC_step (wpAny_isInstance hT hsub ?_)
      first | refine wpAny_no Bool.false_ne_true ?_ | refine wpC_no Bool.false_ne_true ?_ | simp only [Bool.not_true, Bool.false_eq_true, if_false]
      refine wpC_bind (wpC_holding ?_)
      unfold callSpecial?
      refine wpC_step (wpAny_specialOf hT hli ?_)
      refine wpC_holding (wpC_step (wpAny_of_eq hbi ?_))
      dsimp only
      refine wpC_bind (wpC_call ?_)
      refine codeC_mono (codeC_call_builtin (hdi _) ft.init.plain entryI (ft.init.check _ _ _ _ _ _ _ _ hT hok hsi)) fun r₂ s₂ hr₂ => ?_
      cases r₂ with
      | error e => exact hr₂
      | ok fl₂ =>
        cases fl₂ with
        | ret r =>
          obtain ⟨rfl, hq⟩ := hr₂
          refine wpC_pure ?_
          refine wpC_pure ?_
          exact hq
        | _ => exact hr₂.elim
    | _ => exact hr.elim
theorem ba_own {S : Addr} {b : Array UInt8} {n : Nat} (hS : s.heap.get? S = some { cls := .type "bytearray", data := .bytearray b n }) {Q : Bool → Shared → Prop} (h : Q false s) : wpAny (model prog w) A (Builtin.Bytes.ownRelease (.ref S)) Q E s := by
  have hT : s.TypeIs (.ref S) "bytearray" := ⟨_, hS, rfl⟩
  unfold Builtin.Bytes.ownRelease Builtin.Bytes.slotIsOwn
  refine wpAny_bind (wpAny_bind (wpAny_specialOf hT ba_rel ?_))
  dsimp only
  have e1 : ("bytearray.__release_buffer__".endsWith ("." ++ "__release_buffer__")) = true := by decide +kernel
  have e2 : "bytearray.__release_buffer__".dropRight ("__release_buffer__".length + 1) = "bytearray" := by decide +kernel
  rw [e1, e2]
  first | refine wpAny_no Bool.false_ne_true ?_ | refine wpC_no Bool.false_ne_true ?_ | simp only [Bool.not_true, Bool.false_eq_true, if_false]
  refine wpAny_isInstance hT ba_sub_self ?_
  exact wpAny_pure h
theorem ba_init {R : Result → Shared → Prop} {S : Addr} {n : Int} {t : Tok} (hS : s.heap.get? S = some { cls := .type "bytearray", data := .bytearray #[] }) (h0 : 0 ≤ n) (hn : n < 2 ^ 20)
    (hR : ∀ h', h'.get? S = some { cls := .type "bytearray", data := .bytearray (Array.replicate n.toNat 0) } → (∀ b o, b ≠ S → s.heap.get? b = some o → h'.get? b = some o) → R (.ok (.ret .none)) { s with heap := h' }) :
    wpC (model prog w) A.in1 (Builtin.«bytearray.__init__» ⟨[.ref S, .int n t], []⟩)
      (fun fin s' => match fin with | .done f => R (.ok f) s' | .again c' => c'.quiet = true ∧ codeC (model prog w) A c' R s') (fun e s' => R (.error e) s') s := by
  unfold Builtin.«bytearray.__init__»
  dsimp only
  refine wpC_step (ba_own hS ?_)
  refine wpC_step (wpAny_of_eq (ba_bind (.ref S) _) ?_)
  dsimp only
  refine wpC_step (wpAny_of_eq (a := ()) rfl ?_)
  refine wpC_step (wpAny_of_eq (a := ()) rfl ?_)
  refine wpC_bind ?_
  unfold orM
  refine wpC_bind (wpC_exported ?_)
  show wpC _ _ (Builtin.Bytes.exportsOf (.ref S) >>= fun k => pure (decide (k > 0))) _ _ _
  refine wpC_step ?_
  unfold Builtin.Bytes.exportsOf
  refine wpAny_bind (wpAny_load hS ?_)
  dsimp only
  refine wpAny_pure ?_
  refine wpC_pure ?_
  refine wpC_step ?_
  show wpAny _ _ (updateBytearray S fun _ => #[]) _ _ _
  have upd : ∀ (s' : Shared) (b : Array UInt8) (f : Array UInt8 → Array UInt8) (Q' : Unit → Shared → Prop) (E' : Value → Shared → Prop), s'.heap.get? S = some { cls := .type "bytearray", data := .bytearray b } → (f b).size ≤ sizeLine →
      Q' () { s' with heap := s'.heap.update S (Obj.mapBytearray f) } → wpAny (model prog w) A.in1 (updateBytearray S f) Q' E' s' := fun s' b f Q' E' hb hz hq => by
    unfold updateBytearray
    refine wpAny_bind (wpAny_load hb ?_)
    show wpAny _ _ (update S (Obj.mapBytearray f) >>= fun _ => lookBehind S) _ _ _
    refine wpAny_bind (wpAny_update hb ?_)
    refine wpAny_lookBehind (Heap.get?_update_self (Obj.mapBytearray f) hb rfl) ?_ hq
    show (if (f b).size > sizeLine then some "bytearray:memory" else none) = none
    first | refine wpAny_no (by omega) ?_ | refine wpC_no (by omega) ?_ | rw [if_neg (by omega)]
  refine upd _ _ _ _ _ hS (by simp) ?_
  have hS1 := Heap.get?_update_self (Obj.mapBytearray fun _ => (#[] : Array UInt8)) hS rfl
  refine wpC_step (wpAny_of_eq (a := none) rfl ?_)
  refine wpC_step (wpAny_of_eq (a := ()) rfl ?_)
  refine wpC_step (wpAny_specialOf (typeIs_int _ _ _) ba_int_index ?_)
  refine wpC_step (wpAny_attempt (wpAny_of_eq (rfl : asIndex (.int n t) = pure n) ?_))
  dsimp only
  have f1 : Builtin.Bytes.fitsIndex n = true := by
    unfold Builtin.Bytes.fitsIndex
    simp only [Bool.and_eq_true, decide_eq_true_eq]
    omega
  have f2 : (n == 2 ^ 63 - 1) = false := by
    rw [beq_eq_false_iff_ne]
    omega
  have f3 : Builtin.Bytes.tooLong n.toNat = false := by
    unfold Builtin.Bytes.tooLong
    rw [decide_eq_false_iff_not, sizeLine_eq]
    omega
  have f4 : ¬ n < 0 := by omega
  refine wpC_no (nbno f1) (wpC_no f4 (wpC_no (bno f2) (wpC_no (bno f3) ?_)))
  refine wpC_step (wpAny_rule ?_)
  by_cases hp : n > 0
  · refine wpC_yes hp ?_
    refine wpC_step ?_
    show wpAny _ _ (updateBytearray S fun _ => Array.replicate n.toNat 0) _ _ _
    refine upd _ _ _ _ _ hS1 (by rw [Array.size_replicate, sizeLine_eq]; omega) ?_
    refine wpC_pure ?_
    refine hR _ (Heap.get?_update_self (Obj.mapBytearray fun _ => Array.replicate n.toNat (0 : UInt8)) hS1 rfl) fun b o hb e => ?_
    exact (Heap.get?_update_other _ _ (Ne.symm hb)).trans ((Heap.get?_update_other _ _ (Ne.symm hb)).trans e)
  · refine wpC_no hp ?_
    have e0 : n.toNat = 0 := by omega
    refine wpC_pure ?_
    refine hR _ (by rw [e0]; exact hS1) fun b o hb e => ?_
    exact (Heap.get?_update_other _ _ (Ne.symm hb)).trans e
theorem call_bytearray {n : Int} {t : Tok} {Q : Value → Shared → Prop} (h0 : 0 ≤ n) (hn : n < 2 ^ 20)
    (hQ : ∀ h', h'.get? s.heap.objs.size = some { cls := .type "bytearray", data := .bytearray (Array.replicate n.toNat 0) } → (∀ b o, s.heap.get? b = some o → h'.get? b = some o) → Q (.ref s.heap.objs.size) { s with heap := h' }) :
    wpC (model prog w) A (call (.type "bytearray") [.int n t]) Q E s := by
  refine callTypeC (Q₁ := fun obj s₁ => obj = .ref s.heap.objs.size ∧ s₁ = { s with heap := s.heap.push { cls := .type "bytearray", data := .bytearray #[] } }) ba_called (ba_typeCall _) ba_entry_init (fun _ => clean_ba_init)
    (code_ba_new _ ⟨rfl, rfl⟩) fun obj s₁ h₁ => ?_
  obtain ⟨rfl, rfl⟩ := h₁
  have hS : (s.heap.push { cls := .type "bytearray", data := .bytearray #[] }).get? s.heap.objs.size = some { cls := .type "bytearray", data := .bytearray #[] } := Heap.get?_push_size _ rfl
  refine ⟨⟨_, hS, rfl⟩, ba_args _ _, ?_⟩
  refine ba_init hS h0 hn fun h' hS' hk => ?_
  exact ⟨rfl, hQ h' hS' fun b o e => hk b o (Nat.ne_of_lt (Heap.lt_size e)) (Heap.get?_push_of_some _ e)⟩
end
end XBarr
section XBarr2
set_option maxRecDepth 100000

example : True := by
  k_with_none
  trivial

theorem ba_slot_setitem : Slot "bytearray" "__setitem__" "bytearray.__setitem__" :=
  .of (owner := "bytearray") (n := "__setitem__") (by rw [typeLookup_type, builtinLookup_eq_fast]; kernel_rfl) (by decide +kernel) (by decide +kernel) (by decide +kernel)
    (by first | exact .inl (by decide +kernel) | exact .inr (by decide +kernel)) (by rw [isSubtype_type]; kernel_rfl)
theorem ba_entry_setitem : entryFor table "bytearray.__setitem__" = some Builtin.«bytearray.__setitem__» := entryFor_of_tree (by kernel_rfl)
theorem ba_args_setitem (a b c : Value) : argsOk "bytearray.__setitem__" ⟨[a, b, c], []⟩ := by
  unfold argsOk; rw [signature?_of (id := "bytearray.__setitem__") (n := "__setitem__".toList.reverse) (o := "bytearray".toList.reverse) (by kernel_rfl) (show Manifest.owners.lookup _ = some Manifest.sig_bytearray by kernel_rfl)]; kernel_rfl
theorem ba_no_bytes : typeLookup (.type "bytearray") "__bytes__" = pure none := by rw [typeLookup_type, builtinLookup_eq_fast]; kernel_rfl
theorem ba_no_index : typeLookup (.type "bytearray") "__index__" = pure none := by rw [typeLookup_type, builtinLookup_eq_fast]; kernel_rfl
theorem ba_buffer : typeLookup (.type "bytearray") "__buffer__" = pure (some (.builtin "bytearray.__buffer__")) := by rw [typeLookup_type, builtinLookup_eq_fast]; kernel_rfl
section
variable {prog : Program} {w : World} {A : Around} {E : Value → Shared → Prop} {s : Shared}
theorem ba_write {S : Addr} {b : Array UInt8} {f : Array UInt8 → Array UInt8} {Q : Unit → Shared → Prop} (hb : s.heap.get? S = some { cls := .type "bytearray", data := .bytearray b }) (hz : (f b).size ≤ sizeLine)
    (hq : Q () { s with heap := s.heap.update S (Obj.mapBytearray f) }) : wpAny (model prog w) A (Builtin.Bytes.write (.ref S) f) Q E s := by
  show wpAny (model prog w) A (updateBytearray S f) Q E s
  unfold updateBytearray
  refine wpAny_bind (wpAny_load hb ?_)
  show wpAny _ _ (update S (Obj.mapBytearray f) >>= fun _ => lookBehind S) _ _ _
  refine wpAny_bind (wpAny_update hb ?_)
  refine wpAny_lookBehind (Heap.get?_update_self (Obj.mapBytearray f) hb rfl) ?_ hq
  show (if (f b).size > sizeLine then some "bytearray:memory" else none) = none
  first | refine wpAny_no (by omega) ?_ | refine wpC_no (by omega) ?_ | rw [if_neg (by omega)]
theorem setItem_ba {S : Addr} {b : Array UInt8} {k v : Int} {t u : Tok} {Q : Unit → Shared → Prop} (hS : s.heap.get? S = some { cls := .type "bytearray", data := .bytearray b }) (hz : b.size < 2 ^ 20) (h0 : 0 ≤ k) (h1 : k < b.size) (v0 : 0 ≤ v) (v1 : v < 256)
    (hQ : Q () { s with heap := s.heap.update S (Obj.mapBytearray (·.setIfInBounds k.toNat v.toNat.toUInt8)) }) : wpAny (model prog w) A (setItem (.ref S) (.int k t) (.int v u)) Q E s := by
  have hT : s.TypeIs (.ref S) "bytearray" := ⟨_, hS, rfl⟩
  unfold setItem
  refine wpAny_holding ?_
  refine wpAny_bind (wpAny_sequenceKey hT (by decide) ?_)
  refine wpAny_bind (wpAny_callSpecial?_slot (name := Str.ofString "__setitem__") hT ba_slot_setitem
    (wpAny_call_entry ba_slot_setitem hT ba_entry_setitem ?_ (ba_args_setitem _ _ _)))
  unfold Builtin.«bytearray.__setitem__»
  dsimp only
  simp only [List.isEmpty_nil, Bool.not_true, Bool.false_eq_true, if_false]
  have f1 : Builtin.Bytes.fitsIndex k = true := by
    unfold Builtin.Bytes.fitsIndex
    simp only [Bool.and_eq_true, decide_eq_true_eq]
    omega
  refine wpAny_bind ?_
  unfold Builtin.Bytes.subscript?
  refine wpAny_bind (wpAny_specialOf (typeIs_int _ _ _) ba_int_index ?_)
  simp only [Option.isNone_some, Bool.false_eq_true, if_false]
  refine wpAny_bind (wpAny_of_eq (rfl : asIndex (.int k t) = pure k) ?_)
  simp only [f1, Bool.not_true, Bool.false_eq_true, if_false]
  refine wpAny_pure ?_
  dsimp only
  refine wpAny_bind ?_
  unfold Builtin.Bytes.byteValue
  refine wpAny_bind (wpAny_of_eq (rfl : asIndex (.int v u) = pure v) ?_)
  have f2 : (decide (v < 0) || decide (v ≥ 256)) = false := by simp; omega
  simp only [f2, Bool.false_eq_true, if_false]
  refine wpAny_pure ?_
  refine wpAny_bind ?_
  unfold Builtin.Bytes.payload Builtin.Bytes.payload?
  refine wpAny_bind (wpAny_bind (wpAny_load hS ?_))
  dsimp only
  refine wpAny_pure ?_
  dsimp only
  refine wpAny_pure ?_
  obtain ⟨i, rfl⟩ := Int.eq_ofNat_of_zero_le h0
  rw [seq_idx (by omega)]
  dsimp only
  refine wpAny_bind (ba_write hS (by rw [Array.size_setIfInBounds, sizeLine_eq]; omega) ?_)
  refine wpAny_pure ?_
  exact ⟨.none, rfl, wpAny_pure hQ⟩
theorem ba_ownBuf {S : Addr} {b : Array UInt8} {n : Nat} (hS : s.heap.get? S = some { cls := .type "bytearray", data := .bytearray b n }) {Q : Bool → Shared → Prop} (h : Q true s) : wpAny (model prog w) A (Builtin.Bytes.slotIsOwn (.ref S) "__buffer__") Q E s := by
  have hT : s.TypeIs (.ref S) "bytearray" := ⟨_, hS, rfl⟩
  unfold Builtin.Bytes.slotIsOwn
  refine wpAny_bind (wpAny_specialOf hT ba_buffer ?_)
  dsimp only
  have e1 : ("bytearray.__buffer__".endsWith ("." ++ "__buffer__")) = true := by decide +kernel
  have e2 : "bytearray.__buffer__".dropRight ("__buffer__".length + 1) = "bytearray" := by decide +kernel
  rw [e1, e2]
  first | refine wpAny_no Bool.false_ne_true ?_ | refine wpC_no Bool.false_ne_true ?_ | simp only [Bool.not_true, Bool.false_eq_true, if_false]
  exact wpAny_isInstance hT ba_sub_self h
theorem call_bytes_ba {S : Addr} {b : Array UInt8} {Q : Value → Shared → Prop} (hS : s.heap.get? S = some { cls := .type "bytearray", data := .bytearray b }) (hz : b.size < 2 ^ 20)
    (hQ : ∀ t k, Q (.bytes b t) { s with toks := k }) : wpAny (model prog w) A (call (.type "bytes") [.ref S]) Q E s := by
  have hT : s.TypeIs (.ref S) "bytearray" := ⟨_, hS, rfl⟩
  refine callType_codes (Q₁ := fun obj s₁ => s₁.TypeIs obj "bytes" ∧ Q obj s₁) F.bm_called (F.bm_typeCall _) F.entry_object_init ?_ fun obj s₁ h₁ => ?_
  · refine codeAny_of_tree ?_
    show wpAny _ A.in1.in1 (do checkBuiltinCall "bytes.__new__" ⟨[.type "bytes", .ref S], []⟩; again (.builtin "bytes.__new__" ⟨[.type "bytes", .ref S], []⟩)) _ _ s
    refine wpAny_bind (wpAny_of_eq (F.bm_newCall _) (wpAny_pure ⟨plainId_quiet F.bm_plain _, codeAny_builtin F.bm_entry ?_⟩))
    rw [Around.under_plainId F.bm_plain _]
    unfold Builtin.«bytes.__new__»
    refine wpAny_bind (wpAny_of_eq (a := true) rfl ?_)
    refine bm_if_false rfl ?_
    refine wpAny_bind (wpAny_of_eq F.bm_sub ?_)
    refine bm_if_false rfl ?_
    refine wpAny_bind (wpAny_of_eq (F.bm_bind _) ?_)
    refine wpAny_bind (wpAny_of_eq (a := ()) rfl ?_)
    refine wpAny_bind (wpAny_of_eq (a := ()) rfl ?_)
    refine bm_if_false rfl ?_
    refine wpAny_bind (wpAny_specialOf hT ba_no_bytes ?_)
    refine wpAny_bind (wpAny_bind ?_)
    show wpAny _ _ (load S >>= _) _ _ _
    refine wpAny_bind (wpAny_load hS ?_)
    dsimp only
    refine wpAny_pure (wpAny_pure ?_)
    refine bm_if_false rfl ?_
    refine wpAny_bind (wpAny_specialOf hT ba_no_index ?_)
    refine bm_if_true rfl ?_
    first
      | show wpAny _ _ (Builtin.Bytes.buffer? "bytes.__new__" (.ref S) true >>= _) _ _ _
      | (refine wpAny_bind ?_; show wpAny _ _ (Builtin.Bytes.buffer? "bytes.__new__" (.ref S) true >>= _) _ _ _)
    refine wpAny_bind ?_
    unfold Builtin.Bytes.buffer?
    refine wpAny_bind (wpAny_specialOf hT ba_buffer ?_)
    dsimp only
    refine wpAny_bind (ba_ownBuf hS ?_)
    first | refine wpAny_no Bool.false_ne_true ?_ | refine wpC_no Bool.false_ne_true ?_ | simp only [Bool.not_true, Bool.false_eq_true, if_false]
    refine wpAny_bind (wpAny_specialOf hT ba_buffer ?_)
    refine wpAny_bind (ba_own hS ?_)
    first | refine wpAny_no Bool.false_ne_true ?_ | refine wpC_no Bool.false_ne_true ?_ | simp only [Bool.false_eq_true, if_false]
    refine wpAny_bind ?_
    unfold Builtin.Bytes.payload Builtin.Bytes.payload?
    refine wpAny_bind (wpAny_bind (wpAny_load hS ?_))
    dsimp only
    refine wpAny_pure ?_
    dsimp only
    refine wpAny_pure ?_
    refine wpAny_pure ?_
    refine wpAny_bind (wpAny_rule ?_)
    refine wpAny_bind (wpAny_mkBytes ?_ (by rw [sizeLine_eq]; omega))
    show wpAny _ _ (if (Value.type "bytes" == Value.type "bytes") = true then _ else _) _ _ _
    refine bm_if_true (by decide) ?_
    exact wpAny_pure ⟨PySem.W.typeIs_bytes _ _ _, hQ _ _⟩
  · exact ⟨h₁.1, F.args_object_init_2 obj _, object_init_meets F.bm_called.init.lookup F.bm_called.made (by decide) prog w A.in1 _ s₁ ⟨h₁.1, rfl, h₁.2⟩⟩
end
noncomputable def baObj (b : Array UInt8) : Obj := { cls := .type "bytearray", data := .bytearray b }
section
variable {prog : Program} {w : World} {A : Around} {s : Shared} {h₀ : Heap} {L D : Addr} {m : Str → Option Value} {news : List (Addr × Obj)}
theorem news_set {f : Obj → Obj} {o : Obj} (N : News h₀ L s.heap news) (hm : (D, o) ∈ news) (hf : (f o).isFreed = false := by rfl) : News h₀ L (s.heap.update D f) (turnTo D (f o) news) := fun p hp => by
  rcases List.mem_cons.mp hp with rfl | hp
  · exact ⟨Heap.get?_update_self f (N _ hm).1 hf, (N _ hm).2⟩
  · obtain ⟨h1, h2⟩ := List.mem_filter.mp hp
    exact ⟨(Heap.get?_update_other _ _ (by simpa using Ne.symm (by simpa using h2))).trans (N _ h1).1, (N _ h1).2⟩
theorem fr_set {f : Obj → Obj} {o : Obj} (F : Fr h₀ L s.heap m) (N : News h₀ L s.heap news) (hm : (D, o) ∈ news) : Fr h₀ L (s.heap.update D f) m := by
  obtain ⟨h1, h2, h3⟩ := N _ hm
  have oth : ∀ b o', b ≠ D → s.heap.get? b = some o' → (s.heap.update D f).get? b = some o' := fun b o' hb e => (Heap.get?_update_other _ _ (Ne.symm hb)).trans e
  exact ⟨F.ns.at' fun o' e => oth _ o' (Ne.symm h2) e, fun b o' e => oth b o' (fun e' => by rw [e', h3] at e; cases e) (F.keep b o' e), F.above⟩
theorem setBa_led {E : Value → Shared → Prop} {b : Array UInt8} {k v : Int} {t u : Tok} {Q : Unit → Shared → Prop} (F : Fr h₀ L s.heap m) (N : News h₀ L s.heap news) (hm : (D, baObj b) ∈ news) (hz : b.size < 2 ^ 20) (h0 : 0 ≤ k) (h1 : k < b.size) (v0 : 0 ≤ v) (v1 : v < 256)
    (h : ∀ h' led', Fr h₀ L h' m → News h₀ L h' led' → (D, baObj (b.setIfInBounds k.toNat v.toNat.toUInt8)) ∈ led' → (∀ p ∈ news, p.1 ≠ D → p ∈ led') → (∀ p ∈ led', ∃ q ∈ news, q.1 = p.1) → Q () { s with heap := h' }) :
    wpAny (model prog w) A (setItem (.ref D) (.int k t) (.int v u)) Q E s :=
  setItem_ba (N _ hm).1 hz h0 h1 v0 v1 (h _ _ (fr_set F N hm) (news_set (f := Obj.mapBytearray (·.setIfInBounds k.toNat v.toNat.toUInt8)) N hm) turnTo_new (fun p hp hn => turnTo_old hp hn) fun p hp => turnTo_addr hm hp)
theorem bytesBa_led {E : Value → Shared → Prop} {b : Array UInt8} {Q : Value → Shared → Prop} (N : News h₀ L s.heap news) (hm : (D, baObj b) ∈ news) (hz : b.size < 2 ^ 20) (h : ∀ t k, Q (.bytes b t) { s with toks := k }) :
    wpAny (model prog w) A (call (.type "bytes") [.ref D]) Q E s := call_bytes_ba (N _ hm).1 hz h
end
end XBarr2
section XSwap
set_option maxRecDepth 100000

example : True := by
  k_with_none
  trivial

example : True := by
  k_with "exec For Name Name cons nil" => (k_here; (with_unfolding_all refine' For_invVF ?wkkF ?wkk1 ?wkk2 ?_; (case wkkF => k_asm); (case wkk1 => exact rfl); (case wkk2 => exact rfl); k_whole))
  k_with "exec For Name List cons nil" => (k_here; (with_unfolding_all refine' For_invVF ?wkkF ?wkk1 ?wkk2 ?_; (case wkkF => k_asm); (case wkk1 => exact rfl); (case wkk2 => exact rfl); k_whole))
  k_with "exec For Name Call cons nil" => (k_here; (with_unfolding_all refine' For_invVF ?wkkF ?wkk1 ?wkk2 ?_; (case wkkF => k_asm); (case wkk1 => exact rfl); (case wkk2 => exact rfl); k_whole))
  k_with "exec For Name Subscript cons nil" => (k_here; (with_unfolding_all refine' For_invVF ?wkkF ?wkk1 ?wkk2 ?_; (case wkkF => k_asm); (case wkk1 => exact rfl); (case wkk2 => exact rfl); k_whole))
  k_with "pyIter ref" => refine Held.mk ?_
  k_with "pyIter bytes" => refine Held.mk ?_
  k_with "TPost" => dsimp only [TPost]
  trivial
section
variable {prog : Program} {w : World} {A : Around} {E : Value → Shared → Prop} {s : Shared} {env : Env} {h₀ : Heap} {x : Str} {body : List Stmt} {Q : Flow → Shared → Prop}
theorem iter_rgc {r : Addr} {a b c : Int} {t u v : Tok} {n : Nat} {m₀ : Str → Option Value} {led₀ : List (Addr × Obj)} (J : Nat → (Str → Option Value) → List (Addr × Obj) → Prop)
    (hh : A.handled = none) (hr : IsRange s.heap r a b c t u v) (hsm : Builtin.Range.small a b c = true) (hn : Builtin.Range.rangeSize a b c = (n : Int)) (F : Fr h₀ env.locals s.heap m₀) (N : News h₀ env.locals s.heap led₀) (hj : J 0 m₀ led₀)
    (turn : ∀ i u m₁ led₁ h tk I ito, i < n → J i m₁ led₁ → (∀ p ∈ led₁, p.1 ≠ I) → Fr h₀ env.locals h (fun y => if y = x then some (.int (a + (i : Int) * c) u) else m₁ y) → News h₀ env.locals h ((I, ito) :: led₁) →
      wpAny (model prog w) A (execs body env) (TPost h₀ env.locals I ito (J (i + 1)) { s with heap := h, toks := tk } Q) E { s with heap := h, toks := tk })
    (done : ∀ m₁ led₁ h tk, J n m₁ led₁ → Fr h₀ env.locals h m₁ → News h₀ env.locals h led₁ → Q .next { s with heap := h, toks := tk }) :
    wpAny (model prog w) A (pyIter (.ref r)) (fun it s₂ => LoopAtV prog w A h₀ env x body Q E it s₂) E s := by
  refine wpAny_pyIter_range hr hsm ?_
  have hI₀ : h₀.get? s.heap.objs.size = none := by
    cases q : h₀.get? s.heap.objs.size with
    | none => rfl
    | some o => exact absurd (Heap.lt_size (F.keep _ _ q)) (Nat.lt_irrefl _)
  have hz : ∀ p ∈ led₀, p.1 ≠ s.heap.objs.size := fun p hp => Nat.ne_of_lt (Heap.lt_size (N p hp).1)
  refine loop_one (s := { s with heap := s.heap.push _ }) J (Walks.range hh s.heap.objs.size a c n) hI₀ (Nat.ne_of_lt F.ns.lt) (by show IsRangeIter _ _ _ _ _; rw [hn]; simpa using Heap.get?_push_size _ rfl) (fun i h hst => ⟨_, hst⟩) (F.push _) (fun p hp => ⟨Heap.get?_push_of_some _ (N p hp).1, (N p hp).2⟩) hz hj ?_ done
  intro i v m₁ led₁ h tk ito hi hJ9 hJ ho F₁ N₁
  obtain ⟨t, rfl⟩ := hJ9
  exact turn i t m₁ led₁ h tk _ ito hi hJ ho F₁ N₁
end
example : True := by
  k_with "setItem ref int" => (k_here; k_dflt (refine' setBa_led ?wkF ?wkN ?wkm ?wkz ?wka ?wkb ?wkc ?wkd ?_; (case wkF => k_asm); (case wkN => k_asm); (case wkm => k_mem); (case wkz => omega); (case wka => omega); (case wkb => omega); (case wkc => omega); (case wkd => omega)); intro _ _ _ _ _ _ _)
  k_with "subscriptTail Name BinOp bytes int" => (k_here; k_dflt (refine' KBw.item_K (hk := rfl) ?wkf ?wka ?wkb ?_; (case wkf => rw [KBw.ints_length]; omega); (case wka => omega); (case wkb => rw [KBw.ints_length]; omega)); intro _ _ _ _)
  k_with "call type:bytes" => (k_here; k_dflt (refine' bytesBa_led ?wkN ?wkm ?wkz ?_; (case wkN => k_asm); (case wkm => k_mem); (case wkz => omega)); intro _ _)
  trivial
noncomputable def Dn (i j n : Nat) (b arr : Array UInt8) : Prop := arr.size = 2 * n ∧ (∀ i' j', i' < i → j' < n → arr[i' * n + (n - 1 - j')]? = b[i' * n + j']?) ∧ ∀ j', j' < j → arr[i * n + (n - 1 - j')]? = b[i * n + j']?
theorem byte_at {b : Array UInt8} {k : Nat} (h : k < b.size) : b[k]? = some ((KBw.bInts b).getD k 0).toNat.toUInt8 := by
  rw [Array.getElem?_eq_getElem h]
  simp [KBw.bInts, h]
theorem dn_step {i j n q : Nat} {b arr : Array UInt8} (hq : i * n = q) (hi : i < 2) (hj : j < n) (hb : b.size = 2 * n) (D : Dn i j n b arr) {k : Nat} {v : UInt8} (hk : k = q + (n - 1 - j)) (hv : b[q + j]? = some v) : Dn i (j + 1) n b (arr.setIfInBounds k v) := by
  obtain ⟨h1, h2, h3⟩ := D
  have hqn : q + n ≤ 2 * n := by
    have : i = 0 ∨ i = 1 := by omega
    rcases this with rfl | rfl <;> omega
  refine ⟨by rw [Array.size_setIfInBounds]; exact h1, fun i' j' hi' hj' => ?_, fun j' hj' => ?_⟩
  · have e1 : i' = 0 ∧ i = 1 := by omega
    obtain ⟨rfl, rfl⟩ := e1
    rw [Array.getElem?_setIfInBounds, if_neg (by omega)]
    exact h2 0 j' hi' hj'
  · rw [hq]
    by_cases e : j' = j
    · subst e
      rw [hv, ← hk, Array.getElem?_setIfInBounds, if_pos rfl, if_pos (by omega)]
    · rw [Array.getElem?_setIfInBounds, if_neg (by omega)]
      have := h3 j' (by omega)
      rw [hq] at this
      exact this
theorem dn_next {i n : Nat} {b arr : Array UInt8} (D : Dn i n n b arr) : Dn (i + 1) 0 n b arr := by
  obtain ⟨h1, h2, h3⟩ := D
  refine ⟨h1, fun i' j' hi' hj' => ?_, fun j' h => absurd h (Nat.not_lt_zero _)⟩
  by_cases e : i' = i
  · subst e
    exact h3 j' hj'
  · exact h2 i' j' (by omega) hj'
inductive JB1 (Sb : Addr) (rest : List (Addr × Obj)) (n : Nat) (b : Array UInt8) (tb tn : Tok) (i : Nat) (m : Str → Option Value) (led : List (Addr × Obj)) : Prop
  | mk (arr : Array UInt8) (hma : (Sb, baObj arr) ∈ led) (hD : Dn i 0 n b arr) (hk : ∀ p ∈ rest, p ∈ led) (hm : Pins m [(Str.ofString "swapped_data", .ref Sb), (Str.ofString "data", .bytes b tb), (Str.ofString "width", .int n tn)]) : JB1 Sb rest n b tb tn i m led
inductive JB2 (Sb : Addr) (rest : List (Addr × Obj)) (i n : Nat) (b : Array UInt8) (tb tn : Tok) (q : Int) (u : Tok) (j : Nat) (m : Str → Option Value) (led : List (Addr × Obj)) : Prop
  | mk (arr : Array UInt8) (hma : (Sb, baObj arr) ∈ led) (hD : Dn i j n b arr) (hk : ∀ p ∈ rest, p ∈ led) (hm : Pins m [(Str.ofString "i", .int q u), (Str.ofString "swapped_data", .ref Sb), (Str.ofString "data", .bytes b tb), (Str.ofString "width", .int n tn)]) : JB2 Sb rest i n b tb tn q u j m led
section
variable {prog : Program} {w : World} {p : Program} {loose : List Str} {mean : ExcName → Option Value} {mg mb : Str → Option Value}
set_option maxHeartbeats 4000000 in
theorem swapC {dp un : Nat} {gd : Option (List Code)} {cn : Str} {cs : Scope} {a : Addr} {ccd : Value} {cl : List (Str × Addr)} {outer : List Env} {A₀ : Around} {base h₀ : Heap} {L : Addr} {m : Str → Option Value} {s : Shared} {Q E : Value → Shared → Prop} {news : List (Addr × Obj)} {b : Array UInt8} {tb tn : Tok} {n : Nat}
    (B : Below A₀ base outer h₀) (F : Fr h₀ L s.heap m) (X : (Mine.hd.heap_39 w.params).In h₀) (N : News h₀ L s.heap news) (T : Top p loose mean mg mb h₀) (hk : cs.kind = .function)
    (hn : 0 < n) (hn9 : n < 64) (hb : b.size = 2 * n)
    (hd : dp + 20 < recursionLimit) (hu : un + 150 < cLine)
    (hret : ∀ (h' : Heap) (tk' : Nat) (led' : List (Addr × Obj)) (arr : Array UInt8) (t : Tok), Dn 2 0 n b arr → Fr h₀ L h' m → News h₀ L h' led' → (∀ p ∈ news, p ∈ led') → Q (.bytes arr t) { s with heap := h', toks := tk' }) :
    wpC (model prog w) (ktrTop dp un gd cn cs L a ccd cl outer) (call (.ref 237) [.bytes b tb, .int n tn]) Q E s := by
  refine wpC_call ?_
  k_dflt (refine' cod_def ?k1 ?k2 ?k3 ?k4 ?k5 ?kA ?kF ?kK ?k6 ?k7 ?k8 ?k9 ?kB ?_ ?c2 ?c3 ?c4 ?c5; (case kA => exact rfl); (case kF => exact rfl); (case kK => first | assumption | exact rfl); (case k1 => k_asm); (case k2 => k_asm); (case k3 => k_asm); (case k4 => k_asm); (case k5 => k_asm); (case k6 => k_is); (case k7 => k_is); (case k8 => ktr_room); (case k9 => first | exact BindsTo.of_eq rfl | exact binds_K (by k_in) rfl (by k_is) rfl rfl rfl | (refine' kp_binds ?kx ?ke; (case kx => k_in); (case ke => exact fun _ => rfl)) | fail "x_enter: no rule for these arguments"); (case c5 => decide); (case kB => exact locs rfl); (case c2 => exact rfl); (case c3 => exact rfl); (case c4 => exact rfl); k_whole; intro g' L' h' FG' F' N' B' X' T'; (try dsimp only); (try k_lift B'); (try k_fold))
  refine wpC_execs_cons (wpC_Assign_Name (wpC_Call_Name rfl ?_))
  k_steps
  refine callWithC_type1 ?_
  k_steps
  refine call_bytearray (by omega) (by omega) fun h1 hS1 hk1 => ?_
  rename Fr _ _ _ _ => F1
  rename News _ _ _ _ => N1
  have F2 : Fr g' L' h1 _ := F1.keeps hk1
  have N2 : News g' L' h1 ((h'.objs.size, baObj (Array.replicate (b.size : Int).toNat 0)) :: news) := fun p hp => by
    rcases List.mem_cons.mp hp with rfl | hp
    · exact ⟨hS1, Nat.ne_of_gt F1.ns.lt, fr_fresh F1⟩
    · exact (N1.grown hk1) p hp
  have hS0 : ∀ p ∈ news, p.1 < h'.objs.size := fun p hp => Heap.lt_size (N1 p hp).1
  generalize h'.objs.size = Sb at N2 hS0
  clear F1 N1 hS1
  k_steps
  refine wpC_of ?_
  k_steps
  rename IsRange _ _ _ _ _ _ _ _ => hrg
  rename Fr _ _ _ _ => F3
  rename News _ _ _ _ => N3
  refine Held.out ?_
  have hsz : Builtin.Range.rangeSize 0 (b.size : Int) (n : Int) = ((2 : Nat) : Int) := by
    rw [rangeSize_pos (by omega) (by omega), show (b.size : Int) + (n : Int) - 1 = ((n : Int) - 1) + 2 * (n : Int) by omega, Int.add_mul_ediv_right _ _ (by omega), Int.ediv_eq_zero_of_lt (by omega) (by omega)]
    rfl
  have hsm : Builtin.Range.small 0 (b.size : Int) (n : Int) = true := by
    unfold Builtin.Range.small
    rw [hsz]
    have r : ∀ k : Int, -(2 ^ 62) ≤ k → k < 2 ^ 62 → Builtin.Range.rangeFitsLong k = true := fun k h1 h2 => by
      unfold Builtin.Range.rangeFitsLong
      simp only [Bool.and_eq_true, decide_eq_true_eq]
      omega
    have hc : (n : Int) > 0 := by omega
    rw [if_pos hc, r 0 (by omega) (by omega), r _ (by omega) (by omega), r _ (by omega) (by omega), r _ (by omega) (by omega), r ((b.size : Int) + ((n : Int) - 1)) (by omega) (by omega)]
    simp
  refine iter_rgc (n := 2) (J := JB1 Sb news n b tb tn) rfl hrg hsm hsz F3 N3 ?_ ?_ ?_
  · refine ⟨_, .head _, ⟨by rw [Array.size_replicate]; omega, fun i' j' h => absurd h (Nat.not_lt_zero _), fun j' h => absurd h (Nat.not_lt_zero _)⟩, fun p hp => .tail _ hp, .cons rfl (.cons rfl (.cons rfl .nil))⟩
  · clear N3 F3
    intro i u m₁ led₁ h tk I ito hi hJ9 ho F4 N4
    obtain ⟨arr, hma, hD, hk, hm1⟩ := hJ9
    have hIS : I ≠ Sb := Ne.symm (ho _ hma)
    have hSI : Sb ≠ I := ho _ hma
    have hi01 : i = 0 ∨ i = 1 := by omega
    obtain ⟨q, hq, hq2⟩ : ∃ q : Nat, i * n = q ∧ q + n ≤ 2 * n := ⟨_, rfl, by rcases hi01 with h | h <;> subst h <;> omega⟩
    have e : (0 : Int) + (i : Int) * (n : Int) = (q : Int) := by rw [← hq]; simp
    rw [e] at F4
    replace F4 : Fr g' L' h _ := fr_pins F4 (hm1.skip (.cons (by decide) (.cons (by decide) (.cons (by decide) .nil))))
    replace N4 : News g' L' h _ := N4
    k_steps
    rename IsRange _ _ _ _ _ _ _ _ => hrg2
    rename Fr _ _ _ _ => F5
    rename News _ _ _ _ => N5
    refine Held.out ?_
    refine iter_rg (n := n) (J := JB2 Sb ((I, ito) :: news) i n b tb tn q u) rfl hrg2 (small_one (by omega) (by omega) (by omega) (by omega)) (by rw [rangeSize_one]; split <;> omega) F5 N5 ?_ ?_ ?_
    · refine ⟨arr, .tail _ hma, hD, fun p hp => ?_, .cons rfl (.cons rfl (.cons rfl (.cons rfl .nil)))⟩
      rcases List.mem_cons.mp hp with rfl | hp
      · exact .head _
      · exact .tail _ (hk p hp)
    · clear N5 F5 hD hma
      intro j u2 m₂ led₂ h2 tk2 I2 ito2 hj hJ9 ho2 F6 N6
      obtain ⟨arr, hma, hD, hk2, hm0⟩ := hJ9
      rw [Int.zero_add] at F6
      replace F6 : Fr g' L' h2 _ := fr_pins F6 (hm0.skip (.cons (by decide) (.cons (by decide) (.cons (by decide) (.cons (by decide) .nil)))))
      replace N6 : News g' L' h2 _ := N6
      have hsa : arr.size = 2 * n := hD.1
      k_steps
      rename_i hv0 hv1 _ led9 F9 N9 hm9 hk9 ha9
      have hI2 := hk9 _ (.head _) (Ne.symm (ho2 _ hma))
      obtain ⟨N10, ho10, hk10⟩ := led_end N9 hI2
      refine TEnd.mk' F9 N10 ho10 ⟨_, hk10 _ hm9 (show Sb ≠ I2 from ho2 _ hma), dn_step hq hi hj hb hD ?_ ?_, fun p hp => hk10 _ (hk9 _ (.tail _ (hk2 p hp)) ?_) (ho2 p (hk2 p hp)), .cons rfl (.cons rfl (.cons rfl (.cons rfl .nil)))⟩
      · omega
      · have e9 : ((q : Int) + (j : Int)).toNat = q + j := by omega
        rw [e9]
        exact byte_at (by omega)
      · rcases List.mem_cons.mp hp with rfl | hp
        · exact hIS
        · exact Nat.ne_of_lt (hS0 p hp)
    · intro m₂ led₂ h2 tk2 hJ9 F6 N6
      obtain ⟨arr, hma, hD, hk2, hm0⟩ := hJ9
      replace F6 : Fr g' L' h2 _ := fr_pins F6 hm0
      replace N6 : News g' L' h2 _ := N6
      k_steps
      rename Fr _ _ _ _ => F7
      rename News _ _ _ _ => N7
      obtain ⟨N10, ho10, hk10⟩ := led_end N7 (hk2 _ (.head _))
      refine TEnd.mk' F7 N10 ho10 ⟨arr, hk10 _ hma (show Sb ≠ I from hSI), dn_next hD, fun p hp => hk10 _ (hk2 _ (.tail _ hp)) (ho _ (hk p hp)), .cons rfl (.cons rfl (.cons rfl .nil))⟩
  · intro m₁ led₁ h tk hJ9 F4 N4
    obtain ⟨arr, hma, hD, hk, hm1⟩ := hJ9
    replace F4 : Fr g' L' h _ := fr_pins F4 hm1
    replace N4 : News g' L' h _ := N4
    have hsa : arr.size = 2 * n := hD.1
    k_steps
    exact hret _ _ _ arr _ hD (by k_asm) (by k_asm) hk
end
end XSwap
section XMkL
set_option maxRecDepth 100000

example : True := by
  k_with_none
  trivial

open Builtin Builtin.ObjectAttr Builtin.Getset_descriptor
noncomputable def makesInL (K : Frag) (C : Addr) : Bool := match K.lookup C with
  | some ⟨_, _, .cls cd, sl⟩ => !cd.abstract && !cd.hasDel && (sl.toList[4]?).join == some (.builtin "list.__new__") && !cd.mro.isEmpty && cd.mro.contains (.ref C) && cd.mro.contains (.type "list") &&
      specialIn K (.ref C) "__call__" == some (some (.builtin "type.__call__")) && instIn K (.ref C) (.type "type") == some true
  | _ => false
structure MakesL (M : Model) (h : Heap) (C : Addr) : Prop where
  obj : ∃ oc od cd sl, h.get? C = some ⟨oc, od, .cls cd, sl⟩ ∧ cd.abstract = false ∧ cd.hasDel = false ∧ cd.mro.isEmpty = false
  made : Looks M h (Bind.madeBy (.ref C)) (some "list.__new__")
  base : Looks M h (Bind.staticBase (.ref C)) (.ref C)
  self : Looks M h (isSubtype (.ref C) (.ref C)) true
  top : Looks M h (isSubtype (.ref C) (.type "list")) true
  call : Looks M h (specialOf (.ref C) "__call__") (some (.builtin "type.__call__"))
  typ : Looks M h (isInstance (.ref C) (.type "type")) true
theorem makesL_of {K : Frag} {M : Model} {h : Heap} (X : K.In h) {C : Addr} (e : makesInL K C = true) : MakesL M h C := by
  unfold makesInL at e
  split at e
  · rename_i oc od cd sl ho
    simp only [Bool.and_eq_true, Bool.not_eq_true', beq_iff_eq] at e
    obtain ⟨⟨⟨⟨⟨⟨⟨e1, e2⟩, e3⟩, e4⟩, e5⟩, e6⟩, e7⟩, e8⟩ := e
    have hc : clsIn K C = some cd := by unfold clsIn; rw [ho]
    have hm : Looks M h (mroOf (.ref C)) cd.mro := (looks_clsIn X hc).andThen .now
    obtain ⟨c, l, hl⟩ : ∃ c l, cd.mro = c :: l := by cases q : cd.mro with | nil => rw [q] at e4; cases e4 | cons c l => exact ⟨c, l, rfl⟩
    have made : Looks M h (Bind.madeBy (.ref C)) (some "list.__new__") := by
      intro A Q E s k q
      unfold Bind.madeBy
      refine wpAny_bind (hm A _ E s k ?_)
      rw [hl, List.forIn_cons]
      refine wpAny_bind (wpAny_bind (wpAny_bind (wpAny_bind (wpAny_loadPart (k _ _ (X _ _ ho)) (wpAny_pure ?_)))))
      dsimp only
      rw [← Array.getElem?_toList, e3]
      exact wpAny_pure (wpAny_pure (wpAny_pure q))
    refine ⟨⟨oc, od, cd, sl, X _ _ ho, e1, e2, e4⟩, made, ?_, looks_mroIn X ?_, looks_mroIn X ?_, looks_specialIn X e7, looks_instIn X e8⟩
    · intro A Q E s k q
      unfold Bind.staticBase
      refine wpAny_bind (hm A _ E s k ?_)
      rw [hl, List.forIn_cons]
      exact wpAny_bind (wpAny_bind (wpAny_bind (made A _ E s k (wpAny_pure (wpAny_pure (wpAny_pure q))))))
    · unfold mroIn; rw [hc, Option.bind_some, if_neg (by rw [e4]; decide), e5]
    · unfold mroIn; rw [hc, Option.bind_some, if_neg (by rw [e4]; decide), e6]
  · cases e
example (P : Params) : makesInL (Mine.hd.heap_39 P) 213 = true := by kernel_rfl
noncomputable def accObj (C dx : Addr) (items : Array Value) (n : Nat) : Obj := { cls := .ref C, dict := some dx, data := .seq items n }
theorem ln_split : splitId "list.__new__" = some ("list", "__new__") := by decide +kernel
theorem ln_kind : builtinKind "list.__new__" = some .builtinFn := by decide +kernel
theorem ln_sig (C : Addr) (rest : List Value) (kw : List (Str × Value)) : (match Manifest.signature? "list.__new__" with
    | some sig => Bind.checkArgs "list.__new__" sig ⟨.ref C :: rest, kw⟩
    | _ => pure ()) = pure () := by kernel_rfl
section
variable {prog : Program} {w : World} {A : Around} {K : Frag} {C : Addr} {R : Result → Shared → Prop} {h : Heap} {g : Array GenState} {d : Drawn} {t : Nat} {os : OsState}
theorem new_L {rest : List Value} {kw : List (Str × Value)} (Y : MakesL (model prog w) h C)
    (hq : R (.ok (.ret (.ref (h.objs.size + 1)))) ⟨(h.push emptyDict).push (accObj C h.objs.size #[] 0), g, d, t, os⟩) :
    codeAny (model prog w) A (.call (.builtin "list.__new__") ⟨.ref C :: rest, kw⟩) R ⟨h, g, d, t, os⟩ := by
  obtain ⟨⟨oc, od, cd, sl, hC, e1, e2, e4⟩, made, base, self, top, call, typ⟩ := Y
  refine codeAny_of_tree ?_
  show wpAny _ A.in1 (do checkBuiltinCall "list.__new__" ⟨.ref C :: rest, kw⟩; again (.builtin "list.__new__" ⟨.ref C :: rest, kw⟩)) _ _ _
  refine wpAny_bind ?_
  simp only [checkBuiltinCall, ln_kind, ln_split]
  refine bm_if_true (by decide) ?_
  have hT : Looks (model prog w) h (isType (.ref C)) true := by
    unfold isType
    exact (Looks.ld hC).andThen .now
  refine wpAny_bind (hT.at ?_)
  refine bm_if_false rfl ?_
  refine wpAny_bind (top.at ?_)
  refine bm_if_false rfl ?_
  refine wpAny_bind (base.at ?_)
  refine wpAny_bind (made.at ?_)
  dsimp only
  refine bm_if_false (by rw [bne_self_eq_false]) ?_
  refine wpAny_of_eq (ln_sig C rest kw) ?_
  refine wpAny_pure ⟨plainId_quiet F.plain_list_new _, codeAny_builtin_stack F.entry_list_new rfl fun p st => ?_⟩
  rw [Around.under_plainId F.plain_list_new _]
  have hown := owner_list_new
  simp only [hown]
  refine wpAny_bind (hT.at ?_)
  refine bm_if_false rfl ?_
  refine wpAny_bind (top.at ?_)
  refine bm_if_false rfl ?_
  refine wpAny_bind (wpAny_pure ?_)
  show wpAny _ _ (newDict >>= _) _ _ _
  refine wpAny_bind ?_
  show wpAny _ _ (alloc emptyDict >>= fun x => pure (Value.ref x)) _ _ _
  refine wpAny_bind (wpAny_alloc (wpAny_pure ?_))
  dsimp only
  refine wpAny_bind ?_
  show wpAny _ _ (newObjAsIs _ _ _) _ _ _
  unfold newObjAsIs classHasDel
  refine wpAny_bind (wpAny_alloc (wpAny_bind (wpAny_bind (wpAny_load (Heap.get?_push_of_some _ (Heap.get?_push_of_some _ hC)) (wpAny_pure ?_)))))
  rw [e2]
  refine wpAny_pure ?_
  refine wpAny_pure ?_
  show R _ _
  rw [Heap.size_push]
  exact hq
theorem make_coreL {rest : List Value} {kw : List (Str × Value)} {init : Value} (Y : MakesL (model prog w) h C) (hi : Looks (model prog w) h (typeLookup (.ref C) "__init__") (some init))
    (hb : ∀ self, Looks (model prog w) h (bindSpecial init self) (init, [self]))
    (hq : codeAny (model prog w) (A.under (.builtin "type.__call__" ⟨.ref C :: rest, kw⟩)) (.call init ⟨.ref (h.objs.size + 1) :: rest, kw⟩) (InitBack (h.objs.size + 1) R) ⟨(h.push emptyDict).push (accObj C h.objs.size #[] 0), g, d, t, os⟩) :
    codeAny (model prog w) A (.call (.ref C) ⟨rest, kw⟩) R ⟨h, g, d, t, os⟩ := by
  have Y' := Y
  obtain ⟨⟨oc, od, cd, sl, hC, e1, e2, e4⟩, made, base, self, top, call, typ⟩ := Y
  refine codeAny_of_tree ?_
  show wpAny _ _ (callAny (.ref C) _) _ _ _
  refine nd_load hC ?_
  show wpAny _ _ (callAny.viaDunder (.ref C) _) _ _ _
  unfold callAny.viaDunder
  refine wpAny_bind (call.at ?_)
  dsimp only
  rw [tc_bind]
  refine wpAny_bind (wpAny_pure (wpAny_bind (wpAny_pure ?_)))
  refine wpAny_pure (a := Fin.again (.call (.builtin "type.__call__") ⟨.ref C :: rest, kw⟩)) (And.intro rfl ?_)
  refine codeAny_call_builtin_at (Code.quiet_builtin _ (by decide +kernel)) entry_typeCall (check_slot tc_kind tc_split typ (tc_args _ _ _) ?_)
  unfold Builtin.«type.__call__»
  have hm : Looks (model prog w) h (mroOf (.ref C)) cd.mro := ((Looks.ld (part := none) hC).andThen .now).andThen .now
  repeat (first | simp only [e4, Bool.false_eq_true, if_false] | with_reducible refine wpAny_call ?_ | lk)
  refine new_L Y' ?_
  have k : ∀ b o, h.get? b = some o → ((h.push emptyDict).push (accObj C h.objs.size #[] 0)).get? b = some o := fun b o e => Heap.get?_push_of_some _ (Heap.get?_push_of_some _ e)
  have hx : ((h.push emptyDict).push (accObj C h.objs.size #[] 0)).get? (h.objs.size + 1) = some (accObj C h.objs.size #[] 0) := by heap_get
  have t1 : Looks (model prog w) ((h.push emptyDict).push (accObj C h.objs.size #[] 0)) (typeOf (.ref (h.objs.size + 1))) (.ref C) := (Looks.ld hx).andThen .now
  have s1 := self.keeps k
  have i1 := hi.keeps k
  have b1 := (hb (.ref (h.objs.size + 1))).keeps k
  unfold isInstance callSpecial? specialOf
  repeat (first | with_reducible refine wpAny_call ?_ | lk)
  refine codeAny_mono hq fun r s' z => ?_
  rcases r with e | (v | _ | _ | _) <;> first | exact z | exact z.elim | skip
  obtain ⟨rfl, z⟩ := z
  exact wpAny_pure (wpAny_pure z)
end
section
variable {prog : Program} {w : World} {A : Around} {K : Frag} {C x : Addr} {s : Shared} {h₀ : Heap} {L : Addr} {m : Str → Option Value} {news : List (Addr × Obj)} {R : Result → Shared → Prop}
theorem make_L {rest : List Value} {kw : List (Str × Value)} {fI : Addr} (F : Fr h₀ L s.heap m) (N : News h₀ L s.heap news) (X : K.In s.heap) (hm : makesInL K C = true)
    (hi : findIn K (.ref C) "__init__" = some (some (.ref fI))) (hf : typeIn K (.ref fI) = some (.type "function"))
    (h : ∀ x dx h', Fr h₀ L h' m → News h₀ L h' ((x, accObj C dx #[] 0) :: (dx, emptyDict) :: news) → (∀ p ∈ news, p.1 < dx) → dx < x →
      codeAny (model prog w) (A.under (.builtin "type.__call__" ⟨.ref C :: rest, kw⟩)) (.call (.ref fI) ⟨.ref x :: rest, kw⟩) (InitBack x R) { s with heap := h' }) :
    codeAny (model prog w) A (.call (.ref C) ⟨rest, kw⟩) R s := by
  obtain ⟨hh, g, d, t, os⟩ := s
  refine make_coreL (makesL_of X hm) (looks_findIn X hi) (fun self => bind_fn X self hf) (h _ hh.objs.size _ ((F.push _).push _) ?_ (fun p hp => Heap.lt_size (N p hp).1) (Nat.lt_succ_self _))
  have := (N.push F emptyDict).push (F.push _) (accObj C hh.objs.size #[] 0)
  rwa [Heap.size_push] at this
end
end XMkL
section XAccT
set_option maxRecDepth 100000

example : True := by
  k_with_none
  trivial

open Builtin Builtin.ObjectAttr Builtin.Getset_descriptor
theorem lcheck {M : Model} {A : Around} {E : Value → Shared → Prop} {s : Shared} {i n : String} {self : Value} {rest : List Value} {kw : List (Str × Value)} {Q : Unit → Shared → Prop}
    (hk : builtinKind i = some .slot ∨ builtinKind i = some .method) (hs : splitId i = some ("list", n)) (hi : Looks M s.heap (isInstance self (.type "list")) true) (ha : argsOk i ⟨self :: rest, kw⟩) (q : Q () s) :
    wpAny M A (checkBuiltinCall i ⟨self :: rest, kw⟩) Q E s := by
  rcases hk with hk | hk
  all_goals
    simp only [checkBuiltinCall, hk, hs]
    refine wpAny_bind (hi.here ?_)
    first | refine wpAny_no Bool.false_ne_true ?_ | refine wpC_no Bool.false_ne_true ?_ | simp only [Bool.not_true, Bool.false_eq_true, if_false]
    cases hsig : Manifest.signature? i with
    | none => exact wpAny_pure q
    | some sig =>
      simp only [argsOk, hsig] at ha
      have h2 : Bind.checkArgs i sig ⟨self :: rest, kw⟩ = pure () := ha
      show wpAny M A (Bind.checkArgs i sig ⟨self :: rest, kw⟩) Q E s
      rw [h2]; exact wpAny_pure q
theorem lk_ga : builtinKind "list.__getattribute__" = some .slot := by decide +kernel
theorem ls_ga : splitId "list.__getattribute__" = some ("list", "__getattribute__") := by decide +kernel
theorem lk_append : builtinKind "list.append" = some .method := by decide +kernel
theorem ls_append : splitId "list.append" = some ("list", "append") := by decide +kernel
theorem lk_pop : builtinKind "list.pop" = some .method := by decide +kernel
theorem ls_pop : splitId "list.pop" = some ("list", "pop") := by decide +kernel
theorem lk_len : builtinKind "list.__len__" = some .slot := by decide +kernel
theorem ls_len : splitId "list.__len__" = some ("list", "__len__") := by decide +kernel
theorem lk_init : builtinKind "list.__init__" = some .slot := by decide +kernel
theorem ls_init : splitId "list.__init__" = some ("list", "__init__") := by decide +kernel
theorem lk_iter : builtinKind "list.__iter__" = some .slot := by decide +kernel
theorem ls_iter : splitId "list.__iter__" = some ("list", "__iter__") := by decide +kernel
theorem lk_gi : builtinKind "list.__getitem__" = some .method := by decide +kernel
theorem ls_gi : splitId "list.__getitem__" = some ("list", "__getitem__") := by decide +kernel
theorem lk_si : builtinKind "list.__setitem__" = some .slot := by decide +kernel
theorem ls_si : splitId "list.__setitem__" = some ("list", "__setitem__") := by decide +kernel
theorem refuse_acc (self : Value) (C : Addr) : refuseLoop self "__setattr__" [.ref C, .type "list", .type "object"] = pure () := by
  rw [refuseLoop_ref]
  have h1 : classOwn (.type "list") "__setattr__" = pure none := by show pure (builtinOwn _ _) = _; rw [builtinOwn_eq_fast]; kernel_rfl
  have h2 : refuseLoop self "__setattr__" [.type "object"] = pure () := PySem.F.store_object.passes self
  have e1 : ("list" == "_thread._local") = false := by decide
  have e2 : ("list" == "_pickle.Pickler" || "list" == "_pickle.Unpickler") = false := by decide
  unfold refuseLoop at h2 ⊢
  rw [List.forIn_cons]
  simp only [e1, e2, Bool.false_eq_true, if_false, h1, pure_bind, Option.isSome_none]
  exact h2
theorem putL_length (name : Str) (hsh : Int) (key v : Value) : ∀ es : List DictEntry, (putL name hsh key v es).length ≤ es.length + 1
  | [] => Nat.le_refl _
  | e :: r => by
    unfold putL
    split
    · simp
    · have := putL_length name hsh key v r
      simp only [List.length_cons]; omega
noncomputable def accCls (K : Frag) (C : Addr) : Bool := (clsIn K C).any fun cd => cd.hasDict && cd.mro == [.ref C, .type "list", .type "object"]
example (P : Params) : accCls (Mine.hd.heap_39 P) 213 = true := by kernel_rfl
section
variable {prog : Program} {w : World} {A : Around} {E : Value → Shared → Prop} {s : Shared} {K : Frag} {x C dx L : Addr} {ox od : Obj} {name : Str} {h₀ : Heap} {m : Str → Option Value} {news : List (Addr × Obj)} {n : Nat} {its : Array Value}
theorem acc_mro (e : accCls K C = true) : ∃ cd, clsIn K C = some cd ∧ cd.hasDict = true ∧ cd.mro = [.ref C, .type "list", .type "object"] := by
  obtain ⟨cd, h1, h2⟩ := any_some e
  obtain ⟨h2, h3⟩ := Bool.and_eq_true_iff.mp h2
  exact ⟨cd, h1, h2, by simpa using h3⟩
theorem acc_list {M : Model} {h : Heap} {od : Option Obj} (X : K.In h) (hC : accCls K C = true) (I : InstAt h x ox C od) : Looks M h (isInstance (.ref x) (.type "list")) true := by
  obtain ⟨cd, hc, _, hm⟩ := acc_mro hC
  exact I.type.andThen (looks_mroIn X (by unfold mroIn; rw [hc, Option.bind_some, hm]; rfl))
theorem acc_object {M : Model} {h : Heap} {od : Option Obj} (X : K.In h) (hC : accCls K C = true) (I : InstAt h x ox C od) : Looks M h (isInstance (.ref x) (.type "object")) true := by
  obtain ⟨cd, hc, _, hm⟩ := acc_mro hC
  exact I.type.andThen (looks_mroIn X (by unfold mroIn; rw [hc, Option.bind_some, hm]; rfl))
theorem call_acc {i nm : String} {B : Builtin} {rest : List Value} {od : Option Obj} {Q : Value → Shared → Prop} (X : K.In s.heap) (hC : accCls K C = true) (I : InstAt s.heap x ox C od)
    (hk : builtinKind i = some .slot ∨ builtinKind i = some .method) (hs : splitId i = some ("list", nm)) (hp : plainId i = true) (he : entryFor table i = some B) (ha : argsOk i ⟨.ref x :: rest, []⟩)
    (h : wpAny (model prog w) A.in1 (B ⟨.ref x :: rest, []⟩) (fun fin s' => ∃ v, fin = .done (.ret v) ∧ Q v s') (fun _ _ => False) s) :
    wpAny (model prog w) A (call (.builtin i) (.ref x :: rest)) Q E s := by
  refine wpAny_call (codeAny_call_builtin hp he ?_)
  refine lcheck hk hs (acc_list X hC I) ha ?_
  refine wpAny_mono h (fun fin s' z => ?_) fun _ _ z => z.elim
  obtain ⟨v, rfl, z⟩ := z
  exact z
theorem oga_value {M : Model} {v : Value} {tk : Tok} {od : Option Obj} {Q : Fin → Shared → Prop} (X : K.In s.heap) (I : InstAt s.heap x ox C od) (hf : findObj K C od name = some (.value v)) (h : Q (.done (.ret v)) s) :
    wpAny M A (Builtin.«object.__getattribute__» ⟨[.ref x, .str name tk], []⟩) Q E s := by
  have L0 := I.type (M := M)
  have L3 := looks_find (M := M) X I hf
  unfold Builtin.«object.__getattribute__»
  refine wpAny_bind (wpAny_of_eq (a := (.ref x, [.str name tk])) rfl ?_)
  dsimp only
  refine wpAny_bind (wpAny_of_eq (a := name) rfl ?_)
  refine wpAny_bind (L0.here (wpAny_bind (L3.here ?_)))
  exact wpAny_pure h
set_option maxHeartbeats 1000000 in
theorem acc_getAttr {expr : Bool} {v : Value} {od : Option Obj} {Q : Value → Shared → Prop} (X : K.In s.heap) (hC : accCls K C = true) (I : InstAt s.heap x ox C od)
    (hga : findIn K (.ref C) "__getattribute__" = some (some (.builtin "list.__getattribute__"))) (hgn : findIn K (.ref C) "__getattr__" = some none)
    (hf : findObj K C od name = some (.value v)) (hh : handedIn v = true) (h : Q v { s with toks := s.toks + 1 }) : wpAny (model prog w) A (getAttr (.ref x) name expr) Q E s := by
  obtain ⟨hp, g, d, t, os⟩ := s
  have L0 := I.type (M := model prog w)
  have L1 := looks_findIn (M := model prog w) X hga
  have L2 := looks_findIn (M := model prog w) X hgn
  unfold getAttr getAttrBy
  refine wpAny_bind (wpAny_mkText (wpAny_holding (wpAny_bind (L0.at (wpAny_bind (L1.at ?_))))))
  show wpAny _ _ (getAttrByItsOwn _ _ _ (.builtin "list.__getattribute__") _ _) _ _ _
  unfold getAttrByItsOwn
  refine wpAny_bind ?_
  show wpAny _ _ (typeLookup (.ref C) "__getattr__") _ _ _
  refine L2.at ?_
  refine wpAny_bind (wpAny_attempt (wpAny_holding ?_))
  unfold callGetattribute
  have e0 : (expr && onTheHeap (.builtin "list.__getattribute__")) = false := by cases expr <;> rfl
  rw [e0, if_neg (by decide)]
  unfold boundAndCalled
  refine wpAny_bind (wpAny_of_eq (PySem.F.slot_list_getattribute.bind _) ?_)
  refine call_acc (Q := fun v' s' => wpAny (model prog w) A (handedOut v') Q E s') X hC I (.inl lk_ga) ls_ga PySem.F.slot_list_getattribute.plain am_entry_list_getattribute (PySem.F.args_list_getattribute_2 _ _) ?_
  refine oga_value X I hf ⟨v, rfl, ?_⟩
  rw [handedOut_of hh]; exact wpAny_pure h
theorem acc_getMethod {f : Value} {T : String} {pl : Sem Bool} {Q : Value × List Value → Shared → Prop} (X : K.In s.heap) (I : InstAt s.heap x ox C (some od)) (hd : ox.dict = some dx) (hdx : s.heap.get? dx = some od)
    (hga : findIn K (.ref C) "__getattribute__" = some (some (.builtin "list.__getattribute__"))) (hgn : findIn K (.ref C) "__getattr__" = some none)
    (hf : findIn K (.ref C) name = some (some f)) (ht : Looks (model prog w) s.heap (typeOf f) (.type T)) (hT : T = "function" ∨ T = "method_descriptor" ∨ T = "wrapper_descriptor") (hn : lookIn name od = some none)
    (h : Q (f, [.ref x]) s) : wpAny (model prog w) A (getMethod (.ref x) name pl) Q E s := by
  have L0 := I.type (M := model prog w)
  have L1 : Looks (model prog w) s.heap (specialOf (.ref x) "__getattribute__") _ := L0.andThen (looks_findIn (M := model prog w) X hga)
  have L2 : Looks (model prog w) s.heap (specialOf (.ref x) "__getattr__") _ := L0.andThen (looks_findIn (M := model prog w) X hgn)
  have L3 : Looks (model prog w) s.heap (specialOf (.ref x) name) _ := L0.andThen (looks_findIn (M := model prog w) X hf)
  unfold getMethod
  refine wpAny_bind (L1.here ?_)
  show wpAny _ _ (if (Manifest.canonical "list.__getattribute__" != "object.__getattribute__") = true then _ else _) _ _ _
  rw [show (Manifest.canonical "list.__getattribute__" != "object.__getattribute__") = false by decide +kernel, if_neg Bool.false_ne_true]
  refine wpAny_bind (L2.here (wpAny_bind (L3.here ?_)))
  dsimp only
  refine wpAny_bind (ht.here ?_)
  have e : (Value.type T != .type "function" && Value.type T != .type "method_descriptor" && Value.type T != .type "wrapper_descriptor") = false := by
    rcases hT with rfl | rfl | rfl <;> rfl
  rw [e, if_neg Bool.false_ne_true]
  refine wpAny_bind (wpAny_loadPart I.at_ ?_)
  rw [hd]
  refine wpAny_bind (wpAny_bind ?_)
  refine wpAny_loadPart hdx ?_
  rw [nsLook_of hn]
  refine wpAny_pure ?_
  refine wpAny_bind (wpAny_rule (wpAny_pure h))
theorem news_turn {h : Heap} {d : Addr} {o o' : Obj} {f : Obj → Obj} (F : Fr h₀ L h m) (N : News h₀ L h news) (hm : (d, o) ∈ news) (e : f o = o') (hf : o'.isFreed = false) :
    Fr h₀ L (h.update d f) m ∧ News h₀ L (h.update d f) (turnTo d o' news) := by
  have z := news_upd (pre := []) (post := news.filter fun p => p.1 != d) (o := o) (o' := o') (f := f) F (news_turnTo N hm) (fun _ h => nomatch h) (fun p hp => by simpa using (List.mem_filter.mp hp).2) e hf
  exact z
set_option maxHeartbeats 1000000 in
theorem acc_osa {v : Value} {es : List DictEntry} {k : Nat} {tk : Tok} {R : Result → Shared → Prop} (F : Fr h₀ L s.heap m) (X₀ : K.In h₀) (N : News h₀ L s.heap news) (hC : accCls K C = true) (hx : (x, accObj C dx its n) ∈ news) (hdx : (dx, dictOf es k) ∈ news)
    (hn : findIn K (.ref C) name = some none) (hl : (getL name es).isSome = true) (hz : es.length ≤ 900)
    (h : ∀ h' led' tk hsh, Fr h₀ L h' m → News h₀ L h' led' → (dx, dictOf (putL name hsh (.str name tk) v es) (putN name es k)) ∈ led' → (∀ p ∈ news, p.1 ≠ dx → p ∈ led') → (∀ p ∈ led', ∃ q ∈ news, q.1 = p.1) → R (.ok (.ret .none)) { s with heap := h', toks := s.toks + 1 }) :
    codeAny (model prog w) A (.call (.builtin "object.__setattr__") ⟨[.ref x, .str name tk, v], []⟩) R s := by
  have X := X₀.keeps F.keep
  have I : W.InstAt s.heap x (accObj C dx its n) C (some (dictOf es k)) := ⟨(N _ hx).1, rfl, rfl, (N _ hdx).1⟩
  have SF := PySem.F.store_object
  obtain ⟨cd, hc, hd', hmro⟩ := acc_mro hC
  have hm : Looks (model prog w) s.heap (mroOf (.ref C)) cd.mro := (looks_clsIn X hc).andThen .now
  refine codeAny_call_builtin SF.slot.plain SF.entry ?_
  refine @check_slot (model prog w) _ _ _ "object.__setattr__" "object" "__setattr__" (.ref x) [.str name tk, v] [] _ SF.kind SF.split (acc_object X hC I) (SF.args (.ref x) (.str name tk) v) ?_
  rw [osa_eq, refuse_eq]
  refine wpAny_bind (wpAny_bind (I.type.here (wpAny_bind (hm.here ?_))))
  rw [hmro, refuse_acc]
  refine wpAny_pure (wpAny_bind (I.type.here (wpAny_bind ((looks_findIn X hn).here (wpAny_bind (wpAny_pure ?_))))))
  show wpAny _ _ (storeInOwnDict (.ref x) (.ref C) (.str name tk) name v false) _ _ _
  refine wpAny_bind (wpAny_pure (wpAny_bind (wpAny_bind (wpAny_loadPart I.at_ (wpAny_bind ((looks_clsIn X hc).here ?_))))))
  rw [hd']
  refine wpAny_pure (a := some dx) (wpAny_bind (wpAny_pure (wpAny_bind ?_)))
  unfold nsSet
  refine wpAny_bind (wpAny_bind (wpAny_askSetting (wpAny_pure (wpAny_bind (wpAny_mkText (wpAny_bind (wpAny_loadPart (N _ hdx).1 ?_)))))))
  dsimp only
  have c : (!es.toArray.any (·.key.isStr name) && es.toArray.any (·.refKey)) = false := by
    rw [← Array.any_toList, ← Array.any_toList]
    unfold getL at hl
    split at hl
    · rename_i en he
      rw [show (es.toArray.toList) = es from rfl, List.any_eq_true.mpr ⟨en, List.mem_of_find?_eq_some he, List.find?_some he⟩]; rfl
    · split at hl
      · cases hl
      · rename_i z; rw [Bool.not_eq_true] at z; rw [show (es.toArray.toList) = es from rfl, z, Bool.and_false]
  rw [aRefKeyMayBeTheName_at, c]
  obtain ⟨U1, U2⟩ := news_turn (f := Obj.putName name (PyData.keyHash w.params name) (.str name s.toks) v) F N hdx (putName_dict ..) rfl
  have D' := (U2 _ (.head _)).1
  refine wpAny_updatePart (N _ hdx).1 ?_
  refine wpAny_bind (wpAny_lookBehind D' (pastItsLine_dict (by rw [List.size_toArray, sizeLine_eq]; have := putL_length name (PyData.keyHash w.params name) (.str name s.toks) v es; omega)) ?_)
  exact wpAny_pure (h _ _ _ _ U1 U2 (.head _) (fun p hp hn => turnTo_old hp hn) (fun p hp => turnTo_addr hdx hp))
theorem acc_setAttr {v : Value} {es : List DictEntry} {k : Nat} {Q : Unit → Shared → Prop} (F : Fr h₀ L s.heap m) (X₀ : K.In h₀) (N : News h₀ L s.heap news) (hC : accCls K C = true) (hx : (x, accObj C dx its n) ∈ news) (hdx : (dx, dictOf es k) ∈ news)
    (hs : findIn K (.ref C) "__setattr__" = some (some (.builtin "object.__setattr__"))) (hn : findIn K (.ref C) name = some none) (hl : (getL name es).isSome = true) (hz : es.length ≤ 900)
    (h : ∀ h' led' tk hsh, Fr h₀ L h' m → News h₀ L h' led' → (dx, dictOf (putL name hsh (.str name tk) v es) (putN name es k)) ∈ led' → (∀ p ∈ news, p.1 ≠ dx → p ∈ led') → (∀ p ∈ led', ∃ q ∈ news, q.1 = p.1) → Q () { s with heap := h', toks := s.toks + 2 }) :
    wpAny (model prog w) A (setAttr (.ref x) name v) Q E s :=
  set_plain (X₀.keeps F.keep) (show W.InstAt s.heap x (accObj C dx its n) C (some (dictOf es k)) from ⟨(N _ hx).1, rfl, rfl, (N _ hdx).1⟩) hs (acc_osa (s := { s with toks := s.toks + 1 }) F X₀ N hC hx hdx hn hl hz h)
theorem mapSeq_acc (f : Array Value → Array Value) (C dx : Addr) (its : Array Value) (n : Nat) : Obj.mapSeq f (accObj C dx its n) = accObj C dx (f its) (if ((f its).size == its.size) = true then n else n + 1) := rfl
theorem acc_append {v : Value} {Q : Value → Shared → Prop} (F : Fr h₀ L s.heap m) (X₀ : K.In h₀) (N : News h₀ L s.heap news) (hC : accCls K C = true) (hx : (x, accObj C dx its n) ∈ news) (hdx : (dx, od) ∈ news) (hz : its.size < 2 ^ 20)
    (h : ∀ h' led' n', Fr h₀ L h' m → News h₀ L h' led' → (x, accObj C dx (its.push v) n') ∈ led' → (∀ p ∈ news, p.1 ≠ x → p ∈ led') → (∀ p ∈ led', ∃ q ∈ news, q.1 = p.1) → Q .none { s with heap := h' }) :
    wpAny (model prog w) A (call (.builtin "list.append") [.ref x, v]) Q E s := by
  have I : W.InstAt s.heap x (accObj C dx its n) C (some od) := ⟨(N _ hx).1, rfl, rfl, (N _ hdx).1⟩
  refine call_acc (X₀.keeps F.keep) hC I (.inr lk_append) ls_append PySem.F.slot_list_append.plain PySem.F.entry_list_append (PySem.F.args_list_append_2 _ _) ?_
  unfold Builtin.«list.append»
  refine wpAny_bind (wpAny_of_eq (a := (.ref x, v)) rfl ?_)
  dsimp only
  obtain ⟨U1, U2⟩ := news_turn (f := Obj.mapSeq fun xs => xs.push v) F N hx (mapSeq_acc ..) rfl
  refine wpAny_bind (wpAny_updateSeq I.at_ rfl ?_ (by rw [sizeLine_eq]; omega) (by rw [sizeLine_eq, Array.size_push]; omega))
  exact wpAny_pure ⟨.none, rfl, h _ _ _ U1 U2 (.head _) (fun p hp hn => turnTo_old hp hn) (fun p hp => turnTo_addr hx hp)⟩
theorem acc_init0 {Q : Value → Shared → Prop} (F : Fr h₀ L s.heap m) (N : News h₀ L s.heap news) (hx : (x, accObj C dx #[] n) ∈ news) (hdx : (dx, od) ∈ news)
    (h : ∀ h' led' n', Fr h₀ L h' m → News h₀ L h' led' → (x, accObj C dx #[] n') ∈ led' → (∀ p ∈ news, p.1 ≠ x → p ∈ led') → (∀ p ∈ led', ∃ q ∈ news, q.1 = p.1) → Q .none { s with heap := h' }) :
    wpAny (model prog w) A (Builtin.«list.__init__» ⟨[.ref x], []⟩) (fun fin s' => ∃ v, fin = .done (.ret v) ∧ Q v s') (fun _ _ => False) s := by
  have I : W.InstAt s.heap x (accObj C dx #[] n) C (some od) := ⟨(N _ hx).1, rfl, rfl, (N _ hdx).1⟩
  unfold Builtin.«list.__init__»
  dsimp only
  simp only [List.isEmpty_nil, Bool.not_true, Bool.false_eq_true, if_false, List.length_nil, Nat.not_lt_zero, gt_iff_lt]
  obtain ⟨U1, U2⟩ := news_turn (f := Obj.mapSeq fun _ => #[]) F N hx (mapSeq_acc ..) rfl
  refine wpAny_bind ?_
  unfold List.listItems seqItems?
  refine wpAny_bind (wpAny_bind (wpAny_load I.at_ ?_))
  refine wpAny_pure (wpAny_pure ?_)
  refine wpAny_bind (wpAny_updateSeq I.at_ rfl ?_ (by rw [sizeLine_eq]; decide) (by rw [sizeLine_eq]; decide))
  refine wpAny_bind (wpAny_pure ?_)
  exact wpAny_pure ⟨.none, rfl, h _ _ _ U1 U2 (.head _) (fun p hp hn => turnTo_old hp hn) (fun p hp => turnTo_addr hx hp)⟩
theorem acc_len {Q : Value → Shared → Prop} (F : Fr h₀ L s.heap m) (N : News h₀ L s.heap news) (hx : (x, accObj C dx its n) ∈ news) (hdx : (dx, od) ∈ news)
    (h : ∀ t, Q (.int its.size t) { s with toks := s.toks + 1 }) :
    wpAny (model prog w) A (Builtin.«list.__len__» ⟨[.ref x], []⟩) (fun fin s' => ∃ v, fin = .done (.ret v) ∧ Q v s') (fun _ _ => False) s := by
  have I : W.InstAt s.heap x (accObj C dx its n) C (some od) := ⟨(N _ hx).1, rfl, rfl, (N _ hdx).1⟩
  unfold Builtin.«list.__len__»
  refine wpAny_bind (wpAny_of_eq (a := (.ref x, [])) rfl ?_)
  dsimp only
  unfold seqSize
  refine wpAny_bind (wpAny_bind (wpAny_loadPart I.at_ ?_))
  refine wpAny_pure (wpAny_bind (wpAny_mkInt (wpAny_pure ⟨_, rfl, h _⟩)))
theorem acc_pop {its : List Value} {v : Value} {Q : Value → Shared → Prop} (F : Fr h₀ L s.heap m) (N : News h₀ L s.heap news) (hx : (x, accObj C dx (its ++ [v]).toArray n) ∈ news) (hdx : (dx, od) ∈ news) (hz : its.length < 2 ^ 19)
    (h : ∀ h' led' n', Fr h₀ L h' m → News h₀ L h' led' → (x, accObj C dx its.toArray n') ∈ led' → (∀ p ∈ news, p.1 ≠ x → p ∈ led') → (∀ p ∈ led', ∃ q ∈ news, q.1 = p.1) → Q v { s with heap := h' }) :
    wpAny (model prog w) A (Builtin.«list.pop» ⟨[.ref x], []⟩) (fun fin s' => ∃ v, fin = .done (.ret v) ∧ Q v s') (fun _ _ => False) s := by
  have I : W.InstAt s.heap x (accObj C dx (its ++ [v]).toArray n) C (some od) := ⟨(N _ hx).1, rfl, rfl, (N _ hdx).1⟩
  unfold Builtin.«list.pop»
  refine wpAny_bind (wpAny_of_eq (a := (.ref x, [])) rfl ?_)
  dsimp only
  refine wpAny_bind (wpAny_pure ?_)
  have e1 : List.listFitsIndex (-1) = true := by decide
  rw [e1]
  first | refine wpAny_no Bool.false_ne_true ?_ | refine wpC_no Bool.false_ne_true ?_ | simp only [Bool.not_true, Bool.false_eq_true, if_false]
  refine wpAny_bind ?_
  unfold List.listItems seqItems?
  refine wpAny_bind (wpAny_bind (wpAny_load I.at_ ?_))
  refine wpAny_pure (wpAny_pure ?_)
  have e2 : ((its ++ [v]).toArray).isEmpty = false := by simp
  rw [e2]
  first | refine wpAny_no Bool.false_ne_true ?_ | refine wpC_no Bool.false_ne_true ?_ | simp only [Bool.false_eq_true, if_false]
  have e3 : (seqIndex? (-1) (its ++ [v]).toArray.size).bind (fun k => (its ++ [v]).toArray[k]?.map (k, ·)) = some (its.length, v) := by
    have : seqIndex? (-1) (its ++ [v]).toArray.size = some its.length := by
      unfold seqIndex?
      simp only [List.size_toArray, List.length_append, List.length_singleton]
      have h1 : ((-1 : Int) < 0) := by decide
      first | refine wpAny_yes h1 ?_ | refine wpC_yes h1 ?_ | rw [if_pos h1]
      have h2 : (0 : Int) ≤ -1 + ((its.length + 1 : Nat) : Int) := by omega
      have h3 : -1 + ((its.length + 1 : Nat) : Int) < ((its.length + 1 : Nat) : Int) := by omega
      simp only [decide_eq_true h2, decide_eq_true h3, Bool.and_self, if_true]
      congr 1
      omega
    rw [this]
    simp
  rw [e3]
  dsimp only
  have e4 : Array.eraseIdxIfInBounds (its ++ [v]).toArray its.length = its.toArray := by
    have z := kl_erase its [] v
    rwa [List.append_nil] at z
  obtain ⟨U1, U2⟩ := news_turn (f := Obj.mapSeq fun xs => xs.eraseIdxIfInBounds its.length) F N hx ((mapSeq_acc ..).trans (congrArg (fun z => accObj C dx z _) e4)) rfl
  refine wpAny_bind (wpAny_updateSeq I.at_ rfl ?_ (by rw [sizeLine_eq, List.size_toArray, List.length_append, List.length_singleton]; omega) (by rw [e4, sizeLine_eq, List.size_toArray]; omega))
  exact wpAny_pure ⟨v, rfl, h _ _ _ U1 U2 (.head _) (fun p hp hn => turnTo_old hp hn) (fun p hp => turnTo_addr hx hp)⟩
end
end XAccT
section XAccU
set_option maxRecDepth 100000

example : True := by
  k_with_none
  trivial

open Builtin Builtin.ObjectAttr Builtin.Getset_descriptor
section
variable {prog : Program} {w : World} {A : Around} {E : Value → Shared → Prop} {s : Shared} {K : Frag} {x C dx L : Addr} {ox od : Obj} {name : Str} {h₀ : Heap} {m : Str → Option Value} {news : List (Addr × Obj)} {n : Nat} {its : Array Value}
theorem acc_inst (F : Fr h₀ L s.heap m) (N : News h₀ L s.heap news) (hx : (x, accObj C dx its n) ∈ news) (hdx : (dx, od) ∈ news) : W.InstAt s.heap x (accObj C dx its n) C (some od) := ⟨(N _ hx).1, rfl, rfl, (N _ hdx).1⟩
theorem acc_key {k : Value} {nm : Str} {od : Option Obj} {Q : Value → Shared → Prop} (X : K.In s.heap) (hC : accCls K C = true) (I : W.InstAt s.heap x ox C od) (h : Q k s) : wpAny (model prog w) A (sequenceKey (.ref x) k nm) Q E s := by
  obtain ⟨cd, hc, _, hm⟩ := acc_mro hC
  have hb : Looks (model prog w) s.heap (isSubtype (.ref C) (.type "collections.deque")) false := looks_mroIn X (by unfold mroIn; rw [hc, Option.bind_some, hm]; rfl)
  unfold sequenceKey
  refine wpAny_bind (I.type.here ?_)
  dsimp only
  unfold seqItemTypes
  refine wpAny_bind ?_
  show wpAny _ _ (isSubtype (.ref C) (.type "collections.deque") >>= _) _ _ _
  refine wpAny_bind (hb.here ?_)
  refine wpAny_pure ?_
  exact wpAny_pure h
theorem acc_special {i : String} {nm : Str} {rest : List Value} {od : Option Obj} {Q : Option Value → Shared → Prop} (X : K.In s.heap) (I : W.InstAt s.heap x ox C od) (hs : findIn K (.ref C) nm = some (some (.builtin i))) (hb : bindSpecial (.builtin i) (.ref x) = pure (.builtin i, [.ref x]))
    (h : wpAny (model prog w) A (call (.builtin i) (.ref x :: rest)) (fun v => Q (some v)) E s) : wpAny (model prog w) A (callSpecial? (.ref x) nm rest) Q E s := by
  refine wpAny_bind (wpAny_bind (I.type.here ((looks_findIn X hs).here (wpAny_holding ?_))))
  refine wpAny_bind (wpAny_of_eq hb (wpAny_bind (wpAny_mono h (fun _ _ z => wpAny_pure z) fun _ _ z => z)))
theorem acc_getItem {iv : Value} {od : Option Obj} {Q : Value → Shared → Prop} (X : K.In s.heap) (hC : accCls K C = true) (I : W.InstAt s.heap x ox C od) (hs : findIn K (.ref C) "__getitem__" = some (some (.builtin "list.__getitem__")))
    (h : wpAny (model prog w) A (call (.builtin "list.__getitem__") [.ref x, iv]) Q E s) : wpAny (model prog w) A (getItem (.ref x) iv) Q E s := by
  unfold getItem
  refine wpAny_holding (wpAny_bind (acc_key X hC I ?_))
  refine wpAny_bind (acc_special X I hs (PySem.F.slot_list_getitem.bind _) (wpAny_mono h (fun _ _ z => wpAny_pure z) fun _ _ z => z))
theorem acc_setItem {iv v : Value} {od : Option Obj} {Q : Unit → Shared → Prop} (X : K.In s.heap) (hC : accCls K C = true) (I : W.InstAt s.heap x ox C od) (hs : findIn K (.ref C) "__setitem__" = some (some (.builtin "list.__setitem__")))
    (h : wpAny (model prog w) A (call (.builtin "list.__setitem__") [.ref x, iv, v]) (fun _ => Q ()) E s) : wpAny (model prog w) A (setItem (.ref x) iv v) Q E s := by
  unfold setItem
  refine wpAny_holding (wpAny_bind (acc_key X hC I ?_))
  refine wpAny_bind (acc_special X I hs (PySem.F.slot_list_setitem.bind _) (wpAny_mono h (fun _ _ z => wpAny_pure z) fun _ _ z => z))
theorem acc_tail {value slice : Expr} {iv : Value} {od : Option Obj} {Q : Value → Shared → Prop} (X : K.In s.heap) (I : W.InstAt s.heap x ox C od) (hs : findIn K (.ref C) "__getitem__" = some (some (.builtin "list.__getitem__")))
    (h : wpAny (model prog w) A (getItem (.ref x) iv) (fun r s' => wpAny (model prog w) A (letTemporaryGo value (.ref x) r) (fun _ s'' => Q r s'') E s') E s)
    (h2 : ∃ vs, subscripted slice false (.ref x) iv = operate vs (getItem (.ref x) iv)) :
    wpAny (model prog w) A (subscriptTail value slice (.ref x) iv) Q E s := by
  obtain ⟨vs, h2⟩ := h2
  unfold subscriptTail
  refine wpAny_bind ?_
  rw [getitemInPython_of_ne (by intro h; cases h)]
  refine wpAny_bind (wpAny_bind (I.type.here ((looks_findIn X hs).here ?_)))
  refine wpAny_pure ?_
  rw [h2]
  exact wpAny_bind (wpAny_operating (wpAny_mono h (fun r s₃ h₃ => wpAny_bind (wpAny_mono h₃ (fun _ _ z => wpAny_pure z) fun _ _ z => z)) fun _ _ z => z))
theorem wpAny_listItems {M : Model} {a : Addr} {o : Obj} {xs : Array Value} {n : Nat} {Q : Array Value → Shared → Prop} (ho : s.heap.get? a = some o) (hd : o.data = .seq xs n) (h : Q xs s) : wpAny M A (Builtin.List.listItems (.ref a)) Q E s := by
  unfold Builtin.List.listItems
  exact wpAny_bind (wpAny_seqItems ho hd (wpAny_pure h))
theorem acc_item {k : Int} {t : Tok} {v : Value} {Q : Value → Shared → Prop} (F : Fr h₀ L s.heap m) (X₀ : K.In h₀) (N : News h₀ L s.heap news) (hC : accCls K C = true) (hx : (x, accObj C dx its n) ∈ news) (hdx : (dx, od) ∈ news)
    (h0 : 0 ≤ k) (hfit : k < 2 ^ 63) (hi : its[k.toNat]? = some v) (h : Q v s) : wpAny (model prog w) A (call (.builtin "list.__getitem__") [.ref x, .int k t]) Q E s := by
  have I := acc_inst F N hx hdx
  refine call_acc (X₀.keeps F.keep) hC I (.inr lk_gi) ls_gi PySem.F.slot_list_getitem.plain PySem.F.entry_list_getitem (PySem.F.args_list_getitem_2 _ _) ?_
  show wpAny _ _ (Builtin.List.listSubscript? (.int k t) >>= _) _ _ s
  refine wpAny_bind (wpAny_listSubscript_int (fitsIndex_of h0 hfit) ?_)
  clear hfit
  obtain ⟨j, rfl⟩ := Int.eq_ofNat_of_zero_le h0
  have hx' : its[j]? = some v := hi
  show wpAny _ _ ((seqItemAt x j >>= fun r => pure (r.map (j, ·))) >>= _) _ _ s
  refine wpAny_bind (wpAny_bind (wpAny_seqItemAt I.at_ rfl (wpAny_pure ?_)))
  rw [hx']
  exact wpAny_pure ⟨_, rfl, h⟩
theorem acc_slice {sl : Addr} {vl vu vs : Value} {lo hi st : Option Int} {Q : Value → Shared → Prop} (F : Fr h₀ L s.heap m) (X₀ : K.In h₀) (N : News h₀ L s.heap news) (hC : accCls K C = true) (hx : (x, accObj C dx its n) ∈ news) (hdx : (dx, od) ∈ news)
    (hs : s.heap.IsSliceOf sl vl vu vs) (pl : IsPart vl lo) (pu : IsPart vu hi) (ps : IsPart vs st) (h0 : st ≠ some 0) (hsz : its.size ≤ sizeLine)
    (h : Q (.ref s.heap.objs.size) { s with heap := s.heap.push { cls := .type "list", data := .seq (slicePick its lo hi st) } }) :
    wpAny (model prog w) A (call (.builtin "list.__getitem__") [.ref x, .ref sl]) Q E s := by
  have I := acc_inst F N hx hdx
  obtain ⟨os, hos, hcs, hds⟩ := id hs
  have hTs : s.TypeIs (.ref sl) "slice" := ⟨os, hos, hcs⟩
  refine call_acc (X₀.keeps F.keep) hC I (.inr lk_gi) ls_gi PySem.F.slot_list_getitem.plain PySem.F.entry_list_getitem (PySem.F.args_list_getitem_2 _ _) ?_
  show wpAny _ _ (Builtin.List.listSubscript? (.ref sl) >>= _) _ _ s
  refine wpAny_bind ?_
  unfold Builtin.List.listSubscript?
  refine wpAny_bind (wpAny_specialOf hTs slice_no_index ?_)
  simp only [Option.isNone_none, if_true]
  refine wpAny_pure ?_
  show wpAny _ _ (typeOf (.ref sl) >>= _) _ _ s
  refine wpAny_bind (wpAny_typeOf hTs ?_)
  first | refine wpAny_no (by decide) ?_ | refine wpC_no (by decide) ?_ | rw [if_neg (by decide)]
  rw [listSliceParts_eq]
  have hstep : ¬ ((rawPart st == rawInt 0) = true) := by
    cases st with
    | none => exact Bool.false_ne_true
    | some c =>
      intro hh
      have : c = 0 := by simpa [rawPart, rawInt] using hh
      exact h0 (by rw [this])
  refine wpAny_bind (wpAny_bind (wpAny_field hos hds (x := vs) rfl (wpAny_bind (wpAny_listPart ps ?_))))
  first | refine wpAny_no hstep ?_ | refine wpC_no hstep ?_ | rw [if_neg hstep]
  refine wpAny_bind (wpAny_field hos hds (x := vl) rfl (wpAny_bind (wpAny_listPart pl ?_)))
  refine wpAny_bind (wpAny_field hos hds (x := vu) rfl (wpAny_bind (wpAny_listPart pu (wpAny_pure ?_))))
  refine wpAny_bind (m := Builtin.List.listItems (.ref x)) ?_
  unfold Builtin.List.listItems
  refine wpAny_bind (wpAny_seqItems I.at_ rfl (wpAny_pure ?_))
  refine wpAny_bind (wpAny_of_eq (sliceIndices_raw lo hi st its.size h0) ?_)
  exact wpAny_bind (wpAny_newObj_type (wpAny_pure ⟨_, rfl, h⟩) (Nat.le_trans (slicePick_size_le its lo hi st) hsz))
theorem acc_setslice {sl l : Addr} {vl vu : Value} {lo hi : Option Int} {new : Array Value} {Q : Value → Shared → Prop} (F : Fr h₀ L s.heap m) (X₀ : K.In h₀) (N : News h₀ L s.heap news) (hC : accCls K C = true) (hx : (x, accObj C dx its n) ∈ news) (hdx : (dx, od) ∈ news)
    (hs : s.heap.IsSliceOf sl vl vu .none) (pl : IsPart vl lo) (pu : IsPart vu hi) (hl : s.heap.IsList l new) (hlx : l ≠ x) (hsz : its.size < 2 ^ 18) (hsn : new.size < 2 ^ 18)
    (h : ∀ h' led' n', Fr h₀ L h' m → News h₀ L h' led' → (x, accObj C dx (its.extract 0 (sliceBounds lo hi none its.size).1.toNat ++ new ++ its.extract (max (sliceBounds lo hi none its.size).1 (sliceBounds lo hi none its.size).2.1).toNat its.size) n') ∈ led' →
      (∀ p ∈ news, p.1 ≠ x → p ∈ led') → (∀ p ∈ led', ∃ q ∈ news, q.1 = p.1) → Q .none { s with heap := h' }) :
    wpAny (model prog w) A (call (.builtin "list.__setitem__") [.ref x, .ref sl, .ref l]) Q E s := by
  have I := acc_inst F N hx hdx
  obtain ⟨os, hos, hcs, hds⟩ := id hs
  have hTs : s.TypeIs (.ref sl) "slice" := ⟨os, hos, hcs⟩
  have hTl : s.TypeIs (.ref l) "list" := hl.typeIs
  obtain ⟨ol, hol, hcl, nl, hdl⟩ := id hl
  refine call_acc (X₀.keeps F.keep) hC I (.inl lk_si) ls_si PySem.F.slot_list_setitem.plain PySem.F.entry_list_setitem (PySem.F.args_list_setitem_3 _ _ _) ?_
  unfold Builtin.«list.__setitem__»
  refine wpAny_bind (wpAny_of_eq (a := (.ref x, [.ref sl, .ref l])) rfl ?_)
  dsimp only
  refine wpAny_bind ?_
  unfold Builtin.List.listSubscript?
  refine wpAny_bind (wpAny_specialOf hTs slice_no_index ?_)
  simp only [Option.isNone_none, if_true]
  refine wpAny_pure ?_
  dsimp only
  refine wpAny_bind (wpAny_typeOf hTs ?_)
  first | refine wpAny_no (by decide) ?_ | refine wpC_no (by decide) ?_ | rw [if_neg (by decide)]
  rw [listSliceParts_eq]
  refine wpAny_bind (wpAny_bind (wpAny_field hos hds (x := .none) rfl (wpAny_bind (wpAny_listPart (.none) ?_))))
  first | refine wpAny_no (by decide) ?_ | refine wpC_no (by decide) ?_ | rw [if_neg (by decide)]
  refine wpAny_bind (wpAny_field hos hds (x := vl) rfl (wpAny_bind (wpAny_listPart pl ?_)))
  refine wpAny_bind (wpAny_field hos hds (x := vu) rfl (wpAny_bind (wpAny_listPart pu (wpAny_pure ?_))))
  dsimp only
  have e1 : List.listSameRef (.ref x) (.ref l) = false := by
    show (x == l) = false
    exact beq_eq_false_iff_ne.mpr (Ne.symm hlx)
  rw [e1]
  first | refine wpAny_no Bool.false_ne_true ?_ | refine wpC_no Bool.false_ne_true ?_ | simp only [Bool.false_eq_true, if_false]
  refine wpAny_bind ?_
  unfold Builtin.List.listAllItems
  refine wpAny_bind (wpAny_typeOf hTl ?_)
  simp only [beq_self_eq_true, Bool.true_or, if_true]
  refine wpAny_listItems hol hdl ?_
  refine wpAny_bind (wpAny_listItems I.at_ rfl ?_)
  refine wpAny_bind (wpAny_of_eq (sliceIndices_raw lo hi none its.size (by simp)) ?_)
  have hb3 : (sliceBounds lo hi none its.size).2.2 = 1 := rfl
  rw [hb3]
  simp only [beq_self_eq_true, if_true]
  refine wpAny_bind (wpAny_rule ?_)
  have hsl := sizeLine_eq
  have e2 : Builtin.List.listTooLong (its.size + new.size) = false := by
    unfold Builtin.List.listTooLong
    rw [decide_eq_false_iff_not, hsl]; omega
  rw [e2]
  first | refine wpAny_no Bool.false_ne_true ?_ | refine wpC_no Bool.false_ne_true ?_ | simp only [Bool.false_eq_true, if_false]
  generalize hg : (sliceBounds lo hi none its.size).1 = a at h ⊢
  generalize hg2 : (sliceBounds lo hi none its.size).2.1 = c at h ⊢
  obtain ⟨U1, U2⟩ := news_turn (f := Obj.mapSeq fun xs => xs.extract 0 a.toNat ++ new ++ xs.extract (max a c).toNat xs.size) F N hx (mapSeq_acc ..) rfl
  refine wpAny_bind (wpAny_updateSeq I.at_ rfl ?_ (by rw [hsl]; omega) (by
    rw [hsl]; simp only [Array.size_append, Array.size_extract]; omega))
  refine wpAny_bind (wpAny_letGo ?_)
  exact wpAny_pure ⟨.none, rfl, h _ _ _ U1 U2 (.head _) (fun p hp hn => turnTo_old hp hn) (fun p hp => turnTo_addr hx hp)⟩
theorem bounds_from {i n : Nat} (h : i ≤ n) : sliceBounds (some (i : Int)) none none n = ((i : Int), (n : Int), 1) := by
  unfold sliceBounds
  have h1 : ¬ ((i : Int) < 0) := by omega
  simp only [Option.getD_none, h1, if_false, show (1 : Int) > 0 by decide, if_true]
  rw [show max 0 (min (i : Int) n) = i by omega]
theorem bounds_all (n : Nat) : sliceBounds none none none n = (0, (n : Int), 1) := rfl
end
end XAccU
section XAccS
set_option maxRecDepth 100000

example : True := by
  k_with_none
  trivial

open Builtin Builtin.ObjectAttr Builtin.Getset_descriptor
noncomputable abbrev boundB (T i : String) (x : Addr) : Obj := { cls := .type T, dict := none, data := .fields #[.builtin i, .ref x], slots := #[] }
theorem told_pop : Manifest.toldItsClass.contains "list.pop" = false := by decide +kernel
theorem get_pop (x C : Addr) : Builtin.«method_descriptor.__get__» ⟨[.builtin "list.pop", .ref x, .ref C], []⟩ =
    ((do
      if !(← isInstance (.ref x) (.type "list")) then
        rule "descr.get.wrong-instance"
        raiseError "TypeError" s!"descriptor '{("pop" : Str).toString}' for '{← typeName (.type "list")}' objects doesn't apply to a '{← typeNameOf (.ref x)}' object" : Sem Unit) >>= fun _ =>
    newFields "builtin_function_or_method" [.builtin "list.pop", .ref x] >>= fun v => ret v) := by kernel_rfl
theorem get_len (x C : Addr) : Builtin.«wrapper_descriptor.__get__» ⟨[.builtin "list.__len__", .ref x, .ref C], []⟩ =
    ((do
      if !(← isInstance (.ref x) (.type "list")) then
        rule "descr.get.wrong-instance"
        raiseError "TypeError" s!"descriptor '{("__len__" : Str).toString}' for '{← typeName (.type "list")}' objects doesn't apply to a '{← typeNameOf (.ref x)}' object" : Sem Unit) >>= fun _ =>
    newFields "method-wrapper" [.builtin "list.__len__", .ref x] >>= fun v => ret v) := by kernel_rfl
theorem get_init (x C : Addr) : Builtin.«wrapper_descriptor.__get__» ⟨[.builtin "list.__init__", .ref x, .ref C], []⟩ =
    ((do
      if !(← isInstance (.ref x) (.type "list")) then
        rule "descr.get.wrong-instance"
        raiseError "TypeError" s!"descriptor '{("__init__" : Str).toString}' for '{← typeName (.type "list")}' objects doesn't apply to a '{← typeNameOf (.ref x)}' object" : Sem Unit) >>= fun _ =>
    newFields "method-wrapper" [.builtin "list.__init__", .ref x] >>= fun v => ret v) := by kernel_rfl
theorem slot_md_get : Slot "method_descriptor" "__get__" "method_descriptor.__get__" := .of (owner := "method_descriptor") (n := "__get__") (by rw [typeLookup_type, builtinLookup_eq_fast]; kernel_rfl) (by decide +kernel) (by decide +kernel) (by decide +kernel)
  (by first | exact .inl (by decide +kernel) | exact .inr (by decide +kernel)) (by rw [isSubtype_type]; kernel_rfl)
theorem slot_wd_get : Slot "wrapper_descriptor" "__get__" "wrapper_descriptor.__get__" := .of (owner := "wrapper_descriptor") (n := "__get__") (by rw [typeLookup_type, builtinLookup_eq_fast]; kernel_rfl) (by decide +kernel) (by decide +kernel) (by decide +kernel)
  (by first | exact .inl (by decide +kernel) | exact .inr (by decide +kernel)) (by rw [isSubtype_type]; kernel_rfl)
theorem entry_md_get : entryFor table "method_descriptor.__get__" = some Builtin.«method_descriptor.__get__» := entryFor_of_tree (by kernel_rfl)
theorem entry_wd_get : entryFor table "wrapper_descriptor.__get__" = some Builtin.«wrapper_descriptor.__get__» := entryFor_of_tree (by kernel_rfl)
theorem args_md_get (a b c : Value) : argsOk "method_descriptor.__get__" ⟨[a, b, c], []⟩ := by unfold argsOk; kernel_rfl
theorem args_wd_get (a b c : Value) : argsOk "wrapper_descriptor.__get__" ⟨[a, b, c], []⟩ := by unfold argsOk; kernel_rfl
theorem type_pop : typeOf (.builtin "list.pop") = pure (.type "method_descriptor") := by show builtinType _ = _; rw [builtinType_eq_fast]; kernel_rfl
theorem type_len : typeOf (.builtin "list.__len__") = pure (.type "wrapper_descriptor") := by show builtinType _ = _; rw [builtinType_eq_fast]; kernel_rfl
theorem type_init : typeOf (.builtin "list.__init__") = pure (.type "wrapper_descriptor") := by show builtinType _ = _; rw [builtinType_eq_fast]; kernel_rfl
theorem bound_len (x : Addr) : checkBoundCall "list.__len__" ⟨[.ref x], []⟩ = pure () := by kernel_rfl
theorem bound_init (x : Addr) : checkBoundCall "list.__init__" ⟨[.ref x], []⟩ = pure () := by kernel_rfl
section
variable {prog : Program} {w : World} {A : Around} {E : Value → Shared → Prop} {s : Shared} {K : Frag} {x C dx L : Addr} {ox od : Obj} {name : Str} {h₀ : Heap} {m : Str → Option Value} {news : List (Addr × Obj)} {n : Nat} {its : Array Value}
theorem call_get {G i T bt : String} {B : Builtin} {bad : Sem Unit} {Q : Value → Shared → Prop} (slot : Slot T "__get__" G) (entry : entryFor table G = some B) (ht : typeOf (.builtin i) = pure (.type T)) (ha : argsOk G ⟨[.builtin i, .ref x, .ref C], []⟩)
    (hB : B ⟨[.builtin i, .ref x, .ref C], []⟩ = ((isInstance (.ref x) (.type "list") >>= fun b => if (!b) = true then bad else pure ()) >>= fun _ => newFields bt [.builtin i, .ref x] >>= fun v => ret v))
    (hi : Looks (model prog w) s.heap (isInstance (.ref x) (.type "list")) true) (h : Q (.ref s.heap.objs.size) { s with heap := s.heap.push (boundB bt i x) }) : wpAny (model prog w) A (call (.builtin G) [.builtin i, .ref x, .ref C]) Q E s := by
  refine wpAny_call (codeAny_call_builtin slot.plain entry ?_)
  refine slot.check _ _ _ _ _ _ _ _ (show s.TypeIs (.builtin i) T from ht) ha ?_
  rw [hB]
  refine wpAny_bind (wpAny_bind (hi.here (wpAny_pure ?_)))
  refine wpAny_bind ?_
  unfold newFields
  refine wpAny_newObj_type ?_ (by size_fits)
  exact wpAny_pure h
theorem super_gaB {so D : Addr} {i T G : String} {l₀ l : List Value} {tk : Tok} {Q : Fin → Shared → Prop}
    (hso : s.heap.get? so = some (ks_superObj D x C)) (hno : Looks (model prog w) s.heap (opaqueClassAbove (.ref C)) none)
    (hC : Looks (model prog w) s.heap (mroOf (.ref C)) l₀) (hl : (l₀.dropWhile (· != .ref D)).drop 1 = l) (X : K.In s.heap)
    (hf : alongIn K name l = some (some (.builtin i))) (ht : typeOf (.builtin i) = pure (.type T)) (hg : typeLookup (.type T) "__get__" = pure (some (.builtin G))) (hxC : x ≠ C) (hn : (name == ("__class__" : Str)) = false)
    (hq : wpAny (model prog w) A (call (.builtin G) [.builtin i, .ref x, .ref C]) (fun v => Q (.done (.ret v))) E s) :
    wpAny (model prog w) A (Builtin.«super.__getattribute__» ⟨[.ref so, .str name tk], []⟩) Q E s := by
  obtain ⟨h, g, d, t, os⟩ := s
  have hne : (Value.ref x == Value.ref C) = false := by simp [hxC]
  have hdt : (ks_superObj D x C).data = .fields #[.ref D, .ref x, .ref C] := rfl
  have f0 : (#[.ref D, .ref x, .ref C] : Array Value)[0]? = some (.ref D) := rfl
  have f1 : (#[.ref D, .ref x, .ref C] : Array Value)[1]? = some (.ref x) := rfl
  have f2 : (#[.ref D, .ref x, .ref C] : Array Value)[2]? = some (.ref C) := rfl
  unfold Builtin.«super.__getattribute__»
  repeat (first
    | (with_reducible refine wpAny_field hso hdt f0 ?_) | (with_reducible refine wpAny_field hso hdt f1 ?_) | (with_reducible refine wpAny_field hso hdt f2 ?_)
    | (with_reducible refine ks_wpAny_notOpaque hno ?_)
    | (with_reducible refine Looks.at hC ?_; rw [hl])
    | (refine ks_forIn_along X (fun _ _ => rfl) rfl ?_ hf)
    | (with_reducible refine wpAny_of_eq ht ?_)
    | (with_reducible refine wpAny_of_eq hg ?_)
    | (with_reducible refine wpAny_mono hq (fun v s' hv => ?_) fun _ _ z => z)
    | (simp only [hn, hne, Bool.or_false, Bool.false_eq_true, if_false])
    | wp_step
    | dsimp only)
  all_goals exact hv
theorem super_methodB {so D : Addr} {i T G bt : String} {od : Option Obj} {pl : Sem Bool} {Q : Value × List Value → Shared → Prop} (F : Fr h₀ L s.heap m) (X₀ : K.In h₀) (N : News h₀ L s.heap news) (hso : (so, ks_superObj D x C) ∈ news) (I : W.InstAt s.heap x ox C od) (ho : nsIn K cStatics "thirdparty.any" = some none)
    (hm : ks_superIn K C D name = some (some (.builtin i))) (ht : typeOf (.builtin i) = pure (.type T)) (hg : typeLookup (.type T) "__get__" = pure (some (.builtin G))) (hn : (name == ("__class__" : Str)) = false)
    (hcall : ∀ (A : Around) (s : Shared) (Q : Value → Shared → Prop) (E : Value → Shared → Prop), Looks (model prog w) s.heap (isInstance (.ref x) (.type "list")) true → Q (.ref s.heap.objs.size) { s with heap := s.heap.push (boundB bt i x) } → wpAny (model prog w) A (call (.builtin G) [.builtin i, .ref x, .ref C]) Q E s)
    (hl : Looks (model prog w) s.heap (isInstance (.ref x) (.type "list")) true)
    (h : ∀ q h', Fr h₀ L h' m → News h₀ L h' ((q, boundB bt i x) :: news) → (∀ p ∈ news, p.1 < q) → Q (.ref q, []) { s with heap := h', toks := s.toks + 1 }) : wpAny (model prog w) A (getMethod (.ref so) name pl) Q E s := by
  have X : K.In s.heap := X₀.keeps F.keep
  obtain ⟨hh, g, d, t, os⟩ := s
  cases hc : clsIn K C with
  | none => unfold ks_superIn at hm; rw [hc] at hm; cases hm
  | some cd =>
    unfold ks_superIn at hm
    rw [hc] at hm
    have hlk := PySem.F.ks_slot_super_ga.lookup
    have hT : ∀ t', (⟨hh, g, d, t', os⟩ : Shared).TypeIs (.ref so) "super" := fun _ => ⟨_, (N _ hso).1, rfl⟩
    have hMro : Looks (model prog w) hh (mroOf (.ref C)) cd.mro := fun A Q E s k q => wpAny_bind ((looks_clsIn X hc) A _ E s k (wpAny_pure q))
    unfold getMethod
    refine wpAny_bind (wpAny_specialOf (hT _) hlk ?_)
    refine wpAny_yes (PySem.F.ks_canon_super_ga) ?_
    unfold getAttr getAttrBy
    refine wpAny_bind (wpAny_bind (wpAny_mkText (wpAny_holding (wpAny_bind (wpAny_typeOf (hT _) (wpAny_bind (wpAny_of_eq hlk ?_)))))))
    show wpAny _ _ (getAttrByItsOwn (.ref so) (.str name t) (.type "super") (.builtin "super.__getattribute__") true false) _ _ _
    unfold getAttrByItsOwn hookBefore callGetattribute boundAndCalled
    refine wpAny_bind (wpAny_of_eq (show (if onTheHeap (.type "super") then typeLookup (.type "super") "__getattr__" else pure none) = pure none from rfl) ?_)
    refine wpAny_bind (wpAny_attempt (wpAny_holding ?_))
    show wpAny _ _ (bindSpecial (.builtin "super.__getattribute__") (.ref so) >>= _) _ _ _
    refine wpAny_bind (wpAny_of_eq (PySem.F.ks_slot_super_ga.bind _) ?_)
    refine wpAny_mono (Q := fun v s' => v = .ref hh.objs.size ∧ s' = ⟨hh.push (boundB bt i x), g, d, t + 1, os⟩) (E := fun _ _ => False)
      (wpAny_call_entry PySem.F.ks_slot_super_ga (hT _) PySem.F.ks_entry_super_ga (super_gaB (s := ⟨hh, g, d, t + 1, os⟩) (N _ hso).1 (looks_opaque X ho) hMro rfl X hm ht hg (ks_ne X I hc) hn (hcall _ ⟨hh, g, d, t + 1, os⟩ _ _ hl ⟨_, rfl, rfl, rfl⟩)) (PySem.F.ks_gaArgs_super _ _)) (fun v s' hv => ?_) fun _ _ z => z.elim
    obtain ⟨rfl, rfl⟩ := hv
    obtain ⟨F', N', l'⟩ := ks_newsPush (s := ⟨hh, g, d, t, os⟩) (o := boundB bt i x) F N rfl (Heap.get?_push_at rfl rfl) (fun b o e => Heap.get?_push_of_some _ e)
    exact wpAny_pure (wpAny_pure (h _ _ F' N' l'))
theorem call_boundB {T i : String} {b : Addr} {B : Builtin} {Q : Value → Shared → Prop} (N : News h₀ L s.heap news) (hb : (b, boundB T i x) ∈ news) (hT : T = "builtin_function_or_method" ∨ T = "method-wrapper") (hp : plainId i = true) (he : entryFor table i = some B)
    (hc : ∀ (A : Around) (Q : Unit → Shared → Prop) (E : Value → Shared → Prop), Q () s → wpAny (model prog w) A (checkBoundCall i ⟨[.ref x], []⟩) Q E s)
    (h : wpAny (model prog w) A.in1 (B ⟨[.ref x], []⟩) (fun fin s' => ∃ v, fin = .done (.ret v) ∧ Q v s') (fun _ _ => False) s) :
    wpAny (model prog w) A (call (.ref b) []) Q E s := by
  refine wpAny_call (codeAny_of_tree ?_)
  show wpAny _ A.in1 (callAny (.ref b) ⟨[], []⟩) _ _ _
  unfold callAny
  refine wpAny_bind (wpAny_load (N _ hb).1 ?_)
  dsimp only
  have e : ((Value.type T == .type "method") || (Value.type T == .type "builtin_function_or_method") || (Value.type T == .type "method-wrapper")) = true := by rcases hT with rfl | rfl <;> rfl
  have e2 : (Value.type T != .type "method") = true := by rcases hT with rfl | rfl <;> rfl
  rw [e, e2]
  simp only [if_true]
  refine wpAny_bind (hc _ _ _ ?_)
  refine wpAny_pure ⟨plainId_quiet hp _, codeAny_builtin he ?_⟩
  rw [Around.under_plainId hp _]
  refine wpAny_mono h (fun fin s' z => ?_) fun _ _ z => z.elim
  obtain ⟨v, rfl, z⟩ := z
  exact z
end
end XAccS
section XWalkU
set_option maxRecDepth 100000

example : True := by
  k_with_none
  trivial

open Builtin Builtin.ObjectAttr Builtin.Getset_descriptor
open PySem.F
noncomputable def HasSeq (h : Heap) (l : Addr) (its : Array Value) : Prop := ∃ o n, h.get? l = some o ∧ o.data = .seq its n
section
variable {prog : Program} {w : World} {A : Around} {E : Value → Shared → Prop} {s : Shared}
theorem nextS_item {it l : Addr} {i : Nat} {items : Array Value} {x : Value} {Q : Option Value → Shared → Prop} (hit : s.heap.IsListIter it l i) (hl : HasSeq s.heap l items) (hx : items[i]? = some x)
    (hQ : ∀ h', h'.IsListIter it l (i + 1) → Heap.SameBut it s.heap h' → Q (some x) { s with heap := h' }) : wpAny (model prog w) A (pyNext (.ref it)) Q E s := by
  obtain ⟨o, ho, hc, hd⟩ := id hit
  obtain ⟨ol, nl, hol, hdl⟩ := hl
  unfold pyNext
  refine wpAny_bind (wpAny_attempt (wpAny_callSpecial?_slot (name := Str.ofString "__next__") hit.typeIs slot_listiter_next
    (wpAny_call_entry slot_listiter_next hit.typeIs entry_listiter_next ?_ (args_listiter_next _))))
  show wpAny _ _ (field (.ref it) 0 >>= _) _ _ s
  refine wpAny_bind (wpAny_field ho hd (x := .ref l) rfl ?_)
  refine wpAny_no ((show ¬ ((Value.ref l == Value.none) = true) from Bool.false_ne_true)) ?_
  show wpAny _ _ (field (.ref it) 1 >>= _) _ _ s
  refine wpAny_bind (wpAny_field ho hd (x := .int i 0) rfl ?_)
  show wpAny _ _ (seqItems? (.ref l) >>= _) _ _ s
  refine wpAny_bind (wpAny_seqItems hol hdl ?_)
  simp only [Int.toNat_natCast, hx]
  refine wpAny_bind (wpAny_setField ho hd (by simp) (wpAny_pure ⟨x, rfl, wpAny_pure (hQ _ ?_ (Heap.SameBut.update ..))⟩))
  exact ⟨_, Heap.get?_update_self _ ho (Obj.isFreed_of_fields (Obj.data_mapFields hd _)), (Obj.cls_mapFields ..).trans hc, by
    rw [Obj.data_mapFields hd]; simp [rawInt]⟩
theorem nextS_end {it l : Addr} {i : Nat} {items : Array Value} {Q : Option Value → Shared → Prop} (hh : A.handled = none) (hit : s.heap.IsListIter it l i) (hl : HasSeq s.heap l items) (hx : items[i]? = none)
    (hQ : ∀ h', Heap.ExtBut it s.heap h' → Q none { s with heap := h' }) : wpAny (model prog w) A (pyNext (.ref it)) Q E s := by
  obtain ⟨o, ho, hc, hd⟩ := id hit
  obtain ⟨ol, nl, hol, hdl⟩ := hl
  unfold pyNext
  refine wpAny_bind (wpAny_attempt (wpAny_callSpecial?_slot (name := Str.ofString "__next__") hit.typeIs slot_listiter_next
    (wpAny_call_entry slot_listiter_next hit.typeIs entry_listiter_next ?_ (args_listiter_next _))))
  show wpAny _ _ (field (.ref it) 0 >>= _) _ _ s
  refine wpAny_bind (wpAny_field ho hd (x := .ref l) rfl ?_)
  refine wpAny_no ((show ¬ ((Value.ref l == Value.none) = true) from Bool.false_ne_true)) ?_
  show wpAny _ _ (field (.ref it) 1 >>= _) _ _ s
  refine wpAny_bind (wpAny_field ho hd (x := .int i 0) rfl ?_)
  show wpAny _ _ (seqItems? (.ref l) >>= _) _ _ s
  refine wpAny_bind (wpAny_seqItems hol hdl ?_)
  simp only [Int.toNat_natCast, hx]
  refine wpAny_bind (wpAny_rule (wpAny_bind (wpAny_setField ho hd (by simp) ?_)))
  show wpAny _ _ (newExc (.type "StopIteration") [] >>= _) _ _ _
  refine wpAny_bind ?_
  simp only [newExc, newTuple]
  refine wpAny_bind (wpAny_newObj_type ?_ (by size_fits))
  refine wpAny_bind (m := firstArgMember _ _) (wpAny_of_eq (a := Value.none) (by first | rfl | (simp only [firstArgMember]; rfl)) ?_)
  refine wpAny_newObj_type ?_ (by size_fits)
  simp only [raiseNew]
  refine wpAny_bind (wpAny_handled ?_)
  rw [show A.in1.handled = none from hh]
  refine wpAny_bind (wpAny_pure (wpAny_throw ?_))
  refine wpAny_bind (wpAny_isInstance (T := "StopIteration") (b := true) ⟨_, Heap.get?_push_size _ rfl, rfl⟩ isSubtype_stop ?_)
  exact wpAny_pure (hQ _ (((Heap.SameBut.update ..).extBut.push _).push _))
noncomputable def PairAt (h : Heap) (a : Addr) (p : Str) : Prop := ∃ t t', h.IsTuple a #[.str Str.empty t, .str p t']
noncomputable def PairsAt (h : Heap) (as : List Addr) (ps : List Str) : Prop := as.length = ps.length ∧ ∀ (i : Nat) a p, as[i]? = some a → ps[i]? = some p → PairAt h a p
noncomputable def StP (I x : Addr) (as : List Addr) (ps : List Str) (i : Nat) (h : Heap) : Prop := h.IsListIter I x i ∧ HasSeq h x (as.map Value.ref).toArray ∧ PairsAt h as ps
theorem PairAt.at {h h' : Heap} {a : Addr} {p : Str} (x : PairAt h a p) (k : ∀ o, h.get? a = some o → h'.get? a = some o) : PairAt h' a p := by
  obtain ⟨t, t', o, e, r⟩ := x
  exact ⟨t, t', o, k o e, r⟩
theorem HasSeq.at {h h' : Heap} {a : Addr} {its : Array Value} (x : HasSeq h a its) (k : ∀ o, h.get? a = some o → h'.get? a = some o) : HasSeq h' a its := by
  obtain ⟨o, n, e, r⟩ := x
  exact ⟨o, n, k o e, r⟩
theorem PairsAt.at {h h' : Heap} {as : List Addr} {ps : List Str} (x : PairsAt h as ps) (k : ∀ a ∈ as, ∀ o, h.get? a = some o → h'.get? a = some o) : PairsAt h' as ps :=
  ⟨x.1, fun i a p ha hp => (x.2 i a p ha hp).at fun o e => k a (List.mem_of_getElem? ha) o e⟩
theorem walkP (hh : A.handled = none) (I x : Addr) (as : List Addr) (ps : List Str) (hIx : x ≠ I) (hI : I ∉ as) :
    WalksU prog w A I (I :: x :: as) [I] ps.length (fun i vs => ∃ p t t', ps[i]? = some p ∧ vs = #[.str Str.empty t, .str p t']) (StP I x as ps) (fun i T h => StP I x as ps (i + 1) h ∧ T ≠ I) where
  sub := fun b hb => by simp at hb; simp [hb]
  frame := fun _ _ _ st hk => ⟨st.1.at fun o e => hk I (by simp) o e, st.2.1.at fun o e => hk x (by simp) o e, st.2.2.at fun a ha o e => hk a (by simp [ha]) o e⟩
  item := fun i s Q E hi st hQ => by
    obtain ⟨st1, st2, st3⟩ := st
    have hi' : i < as.length := by rw [st3.1]; exact hi
    obtain ⟨t, t', hT⟩ := st3.2 i as[i] ps[i] (by simp [hi']) (by simp [hi])
    refine nextS_item st1 st2 (x := .ref as[i]) (by simp [hi']) fun h' hit' hs' => ?_
    have hne : as[i] ≠ I := fun e => hI (e ▸ List.getElem_mem _)
    refine hQ _ _ h' s.toks ⟨ps[i], t, t', by simp [hi], rfl⟩ ?_ ⟨⟨hit', st2.at fun o e => hs'.extBut _ o hIx e, st3.at fun a ha o e => hs'.extBut _ o (fun q => hI (q ▸ ha)) e⟩, hne⟩ fun b o hb e => hs'.extBut b o (fun h => hb (by simp [h])) e
    obtain ⟨o, e, r⟩ := hT
    exact ⟨o, hs'.extBut _ o hne e, r⟩
  go := fun elts k pos i T s Q E hm hQ => by
    obtain ⟨⟨⟨o, ho, hc, hd⟩, st2, st3⟩, hT⟩ := hm
    unfold letOwnedTupleGo
    dsimp only
    refine wpAny_bind (wpAny_load ho ?_)
    rw [hc, hd]
    dsimp only
    first | refine wpAny_no (by simp +decide) ?_ | refine wpC_no (by simp +decide) ?_ | rw [if_neg (by simp +decide)]
    exact wpAny_pure (hQ s.heap ⟨⟨o, ho, hc, hd⟩, st2, st3⟩ fun b o _ e => e)
  apart := fun i T h hm hb => hm.2 (by simpa using hb)
  done := fun s Q E st hQ => nextS_end hh st.1 st.2.1 (by simp; exact Nat.le_of_eq st.2.2.1) fun h' he' => hQ h' s.toks fun b o hb e => he' b o (fun h => hb (by simp [h])) e
  self := fun _ _ _ _ st hQ => wpAny_pyIter_listiter st.1 hQ
end
end XWalkU
section XGenX
set_option maxRecDepth 100000

example : True := by
  k_with_none
  trivial

open Builtin Builtin.ObjectAttr Builtin.Getset_descriptor
noncomputable def GTab (P : Addr) (pos : Pos) (led : List (Addr × Obj)) : Prop := (P, tabObj #[]) ∈ led ∨ ∃ c', (P, tabObj #[rawInt pos.line, rawInt pos.col, .ref c']) ∈ led
theorem passing_tt (n : Nat) : passing (fun _ => true) n 0 = List.range n := by unfold passing; simp
section
variable {M : Model} {A : Around} {E : Value → Shared → Prop} {s : Shared} {h₀ : Heap} {L c P : Addr} {m : Str → Option Value} {news : List (Addr × Obj)} {env : Env} {pos : Pos} {ps : Array Value} {q : Str} {scope : Scope}
theorem genCode_hit {v : Value} {Q : Value → Shared → Prop} (hc : env.code = .ref c) (C : CodeHd s.heap c P) (hP : s.heap.get? P = some (tabObj ps)) (hf : codeAmong pos ps.toList = some v) (h : Q v s) : wpAny M A (genexprCode env pos q scope) Q E s := by
  obtain ⟨o, vs, file, tf, flags, tg, inF, text, tt, ho, hcl, hd, h11, h11', r⟩ := C
  unfold genexprCode codeAt
  rw [hc, if_neg (show ¬ ((Value.ref c == Value.none) = true) from Bool.false_ne_true)]
  refine wpAny_bind (wpAny_fieldsOf ho hd ?_)
  rw [h11']
  refine wpAny_bind (wpAny_fieldsOf hP rfl ?_)
  rw [hf]
  exact wpAny_pure h
theorem genCode_led {Q : Value → Shared → Prop} (F : Fr h₀ L s.heap m) (N : News h₀ L s.heap news) (C : CodeHd h₀ c P) (hc : env.code = .ref c) (ht : GTab P pos news)
    (h : ∀ v h' tk led', Fr h₀ L h' m → News h₀ L h' led' → GTab P pos led' → (∀ p ∈ news, p.1 ≠ P → p ∈ led') → (∀ p ∈ led', ∃ q ∈ news, q.1 = p.1) → s.heap.objs.size ≤ h'.objs.size → (∀ b o, b ≠ P → s.heap.get? b = some o → h'.get? b = some o) → Q v { s with heap := h', toks := tk }) :
    wpAny M A (genexprCode env pos q scope) Q E s := by
  have C' := C.keeps F.keep
  rcases ht with ht | ⟨c', ht⟩
  · have hm := N _ ht
    refine wpAny_genexprCodeX hc (C'.code hm.1 (by simp [TriplesOk])) (C'.tab hm.1) rfl fun c' h' tk hx hsz hlt hcode hrec htab _ => ?_
    have hPL : P ≠ L := hm.2.1
    refine h _ h' tk (turnTo P (tabObj #[rawInt pos.line, rawInt pos.col, .ref c']) news) ⟨F.ns.at' fun o e => hx _ o (Ne.symm hPL) e, fun b o e => hx b o (fun q => by rw [q, hm.2.2] at e; cases e) (F.keep b o e), F.above⟩ (fun p hp => ?_) (.inr ⟨c', .head _⟩) (fun p hp hn => turnTo_old hp hn) (fun p hp => turnTo_addr ht hp) (Nat.le_trans hsz (Nat.le_of_lt hlt)) (fun b o hb e => hx b o hb e)
    rcases List.mem_cons.mp hp with rfl | hp
    · exact ⟨htab.2, hm.2⟩
    · obtain ⟨hp1, hp2⟩ := List.mem_filter.mp hp
      have := N p hp1
      exact ⟨hx _ _ (by simpa using hp2) this.1, this.2⟩
  · have hm := N _ ht
    refine genCode_hit hc C' hm.1 (v := .ref c') (by simp [codeAmong, rawInt]) ?_
    exact h _ s.heap s.toks news F N (.inr ⟨c', ht⟩) (fun p hp _ => hp) (fun p hp => ⟨p, hp, rfl⟩) (Nat.le_refl _) (fun b o _ e => e)
end
section
variable {prog : Program} {w : World} {A : Around} {E : Value → Shared → Prop} {s : Shared} {h₀ : Heap} {L c P x C dx a : Addr} {m mg mb : Str → Option Value} {news : List (Addr × Obj)} {pos : Pos} {scope : Scope} {p : Program} {loose : List Str} {mean : ExcName → Option Value}
  {cn : Str} {cs : Scope} {ccd : Value} {cl : List (Str × Addr)} {K : Frag} {n : Nat} {od : Obj}
theorem acc_iter {its : Array Value} {Q : Value → Shared → Prop} (F : Fr h₀ L s.heap m) (X₀ : K.In h₀) (N : News h₀ L s.heap news) (hC : accCls K C = true) (hx : (x, accObj C dx its n) ∈ news) (hdx : (dx, od) ∈ news)
    (hs : findIn K (.ref C) "__iter__" = some (some (.builtin "list.__iter__")))
    (h : Q (.ref s.heap.objs.size) { s with heap := s.heap.push { cls := .type "list_iterator", data := .fields #[.ref x, .int 0 0] } }) : wpAny (model prog w) A (pyIter (.ref x)) Q E s := by
  have I := acc_inst F N hx hdx
  have X := X₀.keeps F.keep
  have L1 : Looks (model prog w) s.heap (specialOf (.ref x) "__iter__") _ := I.type.andThen (looks_findIn X hs)
  unfold pyIter
  refine wpAny_bind (L1.here ?_)
  show wpAny _ _ (callSpecialIfBoundUnlessNone? (.ref x) "__iter__" _ >>= _) _ _ _
  refine wpAny_bind ?_
  simp only [callSpecialIfBoundUnlessNone?, bindSpecialIfBound?]
  refine wpAny_holding (wpAny_bind (wpAny_bind (L1.here ?_)))
  simp only [PySem.F.slot_list_iter.bind]
  have hcall : ∀ (Q' : Value → Shared → Prop), Q' (.ref s.heap.objs.size) { s with heap := s.heap.push { cls := .type "list_iterator", data := .fields #[.ref x, .int 0 0] } } → wpAny (model prog w) A (call (.builtin "list.__iter__") [.ref x]) Q' E s := fun Q' hq => by
    refine call_acc X hC I (.inl lk_iter) ls_iter PySem.F.slot_list_iter.plain PySem.F.entry_list_iter (PySem.F.args_list_iter_1 _) ?_
    show wpAny _ _ (do ret (← newFields "list_iterator" [.ref x, rawInt 0])) _ _ s
    exact wpAny_bind (wpAny_newObj_type (wpAny_pure ⟨_, rfl, hq⟩))
  have fin : ∀ (refuse : Sem Value), wpAny (model prog w) A (if (Value.builtin "list.__iter__" == Value.none) = true then (refuse >>= fun v => pure (some v)) else (call (.builtin "list.__iter__") [.ref x] >>= fun v => pure (some v)))
      (fun r s' => r = some (.ref s.heap.objs.size) ∧ s' = { s with heap := s.heap.push { cls := .type "list_iterator", data := .fields #[.ref x, .int 0 0] } }) E s := fun refuse => by
    simp only [builtin_beq_none, Bool.false_eq_true, if_false]
    exact wpAny_bind (hcall _ (wpAny_pure ⟨rfl, rfl⟩))
  have rest : ∀ r s', r = some (.ref s.heap.objs.size) ∧ s' = { s with heap := s.heap.push { cls := .type "list_iterator", data := .fields #[.ref x, .int 0 0] } } → wpAny (model prog w) A (match (motive := Option Value → Sem Value) r with
      | some it => do
        match ← specialOf it "__next__" with
        | none => do rule "iter.non-iterator"; raiseError "TypeError" s!"iter() returned non-iterator of type '{← typeNameOf it}'"
        | some _ => pure it
      | none => do
        match ← bindSpecialIfBound? (.ref x) "__getitem__" with
        | none => do rule "iter.not-iterable"; raiseError "TypeError" s!"'{← typeNameOf (.ref x)}' object is not iterable"
        | some _ => do rule "iter.getitem-fallback"; newFields "iterator" [.ref x, ← mkInt 0]) Q E s' := by
    rintro r s' ⟨rfl, rfl⟩
    refine wpAny_bind (wpAny_specialOf (T := "list_iterator") ⟨_, Heap.get?_push_size _ rfl, rfl⟩ slot_listiter_next.lookup (wpAny_pure h))
  refine wpAny_bind (wpAny_askSetting (wpAny_ite ?_))
  split
  · refine wpAny_bind (wpAny_pure (wpAny_pure (wpAny_mono (fin _) (fun r s' z => rest r s' z) fun _ _ z => z)))
  · refine wpAny_tryCatch (wpAny_bind (wpAny_pure (wpAny_pure (wpAny_mono (fin _) (fun r s' z => rest r s' z) fun _ _ z => z))))
theorem genT {elt : Expr} {xa xb : Str} {px pa pb pt : Pos} {kt : Nat} {as : List Addr} {ps : List Str} {Fv : Str → Value → Prop} {Q : Value → Shared → Prop}
    (F : Fr h₀ L s.heap m) (X₀ : K.In h₀) (N : News h₀ L s.heap news) (T : Top p loose mean mg mb h₀) (G : AllBare s.gens) (C0 : CodeHd h₀ c P) (hcd : ccd = .ref c) (hk : cs.kind = .function) (ht : GTab P pos news)
    (hC : accCls K C = true) (hs : findIn K (.ref C) "__iter__" = some (some (.builtin "list.__iter__"))) (hx : (x, accObj C dx (as.map Value.ref).toArray n) ∈ news) (hdx : (dx, od) ∈ news) (hps : PairsAt s.heap as ps)
    (hm : m (Str.ofString "self") = some (.ref x)) (hself : cs.names.lookup (Str.ofString "self") = some NameKind.local) (hh : A.handled = none) (hroom : A.depth < recursionLimit)
    (hco : scope.isCoroutine = false) (hclos : closureFor scope (envX cn cs L a ccd cl) = pure []) (hcell : ∀ y ∈ scope.names, y.2 ≠ .cell) (h0 : scope.names.lookup (".0" : Str) = some NameKind.local)
    (hxa : scope.names.lookup xa = some .local) (hxb : scope.names.lookup xb = some .local) (hab : xa ≠ xb) (hkind : scope.kind = .function) (hfold : ∀ v, genFold (.Name "self" px) (envX cn cs L a ccd cl) v = pure v)
    (helt : ∀ (D : Addr) (code : Value) (A' : Around) (E' : Value → Shared → Prop) (q : Str) (t t' : Tok) (u : Shared) (mu : Str → Option Value), A'.handled = none → q ∈ ps → u.heap.Ns D mu → mu xa = some (.str Str.empty t) → mu xb = some (.str q t') → (∀ b o, h₀.get? b = some o → u.heap.get? b = some o) →
      wpAny (model prog w) A' (eval elt (genEnv scope [] D code builtinsNs (envX cn cs L a ccd cl))) (fun y u' => Fv q y ∧ Keeps u u') E' u)
    (h : ∀ g s₅ led₅, Fr h₀ L s₅.heap m → News h₀ L s₅.heap led₅ → GTab P pos led₅ → (∀ p ∈ news, p.1 ≠ P → p ∈ led₅) → (∀ p ∈ led₅, ∃ q ∈ news, q.1 = p.1) → AllBare s₅.gens → s₅.os = s.os →
      Gen prog w A (s.heap.objs.size - 1) g ps.length (fun j y => ∃ q, ps[j]? = some q ∧ Fv q y) s₅ → L ≤ s.heap.objs.size - 1 → (∀ p ∈ led₅, p.1 ≤ s.heap.objs.size - 1) → Q (.ref g) s₅) :
    wpAny (model prog w) A (eval (.GeneratorExp elt [⟨.Tuple [.Name xa pa, .Name xb pb] kt pt, .Name "self" px, [], 0⟩] scope pos) (envX cn cs L a ccd cl)) Q E s := by
  refine wpAny_GeneratorExp_walksQTD (cl := []) hh hco hclos hcell h0 hxa hxb hab hkind hroom ?_ hfold
  rw [PySem.eval_Name (env := envX cn cs L a ccd cl) (Str.ofString "self") px (by decide)]
  refine wpAny_bind (wpAny_standAt (wpAny_loadName_local (env := envX cn cs L a ccd cl) hk hself F.ns hm ?_))
  refine acc_iter F X₀ N hC hx hdx hs ?_
  have hxl : x < s.heap.objs.size := Heap.lt_size (N _ hx).1
  have hal : ∀ b ∈ as, b < s.heap.objs.size := fun b hb => by
    obtain ⟨i, hi⟩ := List.mem_iff_getElem?.mp hb
    have hil : i < as.length := (List.getElem?_eq_some_iff.mp hi).1
    obtain ⟨t, t', o, e, _⟩ := hps.2 i b (ps[i]'(by rw [← hps.1]; exact hil)) hi (by simp)
    exact Heap.lt_size e
  have hPm : ∃ psP, (P, tabObj psP) ∈ news := by rcases ht with ht | ⟨c', ht⟩ <;> exact ⟨_, ht⟩
  obtain ⟨psP, hPm⟩ := hPm
  have hPl : P < s.heap.objs.size := Heap.lt_size (N _ hPm).1
  have hxP : x ≠ P := fun e => by
    have h1 := (N _ hx).1
    have h2 := (N _ hPm).1
    dsimp only at h1 h2
    rw [e, h2] at h1
    cases h1
  have haP : ∀ b ∈ as, b ≠ P := fun b hb e => by
    obtain ⟨i, hi⟩ := List.mem_iff_getElem?.mp hb
    have hil : i < as.length := (List.getElem?_eq_some_iff.mp hi).1
    obtain ⟨t, t', o, e', hc', _⟩ := hps.2 i b (ps[i]'(by rw [← hps.1]; exact hil)) hi (by simp)
    have h2 := (N _ hPm).1
    dsimp only at h2
    rw [e, h2] at e'
    cases e'
    cases hc'
  have F2 := F.push { cls := .type "list_iterator", data := .fields #[.ref x, .int 0 0] }
  have hnl := (Top.nolimit T).keeps F2.keep
  refine ⟨hnl, ?_⟩
  refine genCode_led (s := { s with heap := s.heap.push { cls := .type "list_iterator", data := .fields #[.ref x, .int 0 0] } }) (news := news) F2 (fun p hp => ⟨Heap.get?_push_of_some _ (N p hp).1, (N p hp).2⟩) C0 hcd ht ?_
  intro v h' tk led' F' N' ht' hk' ha' hsz' hold'
  obtain ⟨bm, ob, M⟩ := bmod_of_top T
  have M' := M.keeps F'.keep
  refine wpAny_builtinsFor M'.ns M'.name M'.ne M'.obj M'.cls M'.dict M'.data ?_
  rw [Heap.size_push] at hsz'
  have hIx : x ≠ s.heap.objs.size := Nat.ne_of_lt hxl
  have hIa : s.heap.objs.size ∉ as := fun hm => Nat.lt_irrefl _ (hal _ hm)
  have hIP : s.heap.objs.size ≠ P := Nat.ne_of_gt hPl
  have hI0 : h₀.get? s.heap.objs.size = none := by
    cases q : h₀.get? s.heap.objs.size with
    | none => rfl
    | some o => exact absurd (Heap.lt_size (F.keep _ _ q)) (Nat.lt_irrefl _)
  have hst : StP s.heap.objs.size x as ps 0 h' := by
    refine ⟨⟨_, hold' _ _ hIP (Heap.get?_push_size _ rfl), rfl, rfl⟩, ⟨_, n, hold' _ _ hxP (Heap.get?_push_of_some _ (N _ hx).1), rfl⟩, ?_⟩
    exact (hps.at (h' := h') fun b hb o e => hold' _ _ (haP b hb) (Heap.get?_push_of_some _ e))
  refine ⟨s.heap.objs.size, _, _, _, _, _, _, fun _ => true, fun j y => ∃ q, ps[j]? = some q ∧ Fv q y, rfl, fun A' hA => walkP hA s.heap.objs.size x as ps hIx hIa, ?_, hst, ?_, (Top.nolimit T).keeps F'.keep, ?_, ?_, ?_⟩
  · rintro i vals ⟨q, t, t', _, rfl⟩
    exact ⟨_, _, rfl⟩
  · intro b hb
    show b < h'.objs.size
    rcases List.mem_cons.mp hb with rfl | hb
    · exact hsz'
    · rcases List.mem_cons.mp hb with rfl | hb
      · exact Nat.lt_trans hxl hsz'
      · exact Nat.lt_trans (hal b hb) hsz'
  · intro hm
    have e := List.mem_singleton.mp hm
    obtain ⟨mc, hn, _⟩ := (Top.nolimit T)
    exact absurd (Nat.lt_of_lt_of_le hn.lt (Nat.le_trans F.above (Nat.le_of_lt F.ns.lt))) (by rw [← e]; exact Nat.lt_irrefl _)
  · intro href hhref
    refine ⟨fun A' E' i va vb s₂ m₂ hA _ _ hP hn h1 h2 hk => wpAny_pure ⟨rfl, s₂.heap, s₂.toks, rfl, fun _ _ e => e⟩, fun A' E' i va vb s₂ m₂ hA _ _ hP _ hn h1 h2 hk => ?_⟩
    obtain ⟨q, t, t', hq, e⟩ := hP
    have e1 : va = .str Str.empty t ∧ vb = .str q t' := by simpa using congrArg Array.toList e
    obtain ⟨rfl, rfl⟩ := e1
    refine wpAny_mono (helt _ _ A' E' q t t' s₂ m₂ hA (List.mem_of_getElem? hq) hn h1 h2 fun b o e => ?_) (fun y s₃ z => ⟨⟨q, hq, z.1⟩, z.2⟩) fun _ _ z => z
    have hb := F'.keep _ _ e
    refine hk b (List.mem_range.mpr (Heap.lt_size hb)) (fun hm => ?_) o (hhref _ _ hb)
    rw [List.mem_singleton.mp hm, hI0] at e
    cases e
  · intro g h₅ tk₅ gs hgb hlt hsz₅ hk₅ W hat
    have eF : (fun (j : Nat) (y : Value) => ∃ i, (passing (fun _ => true) ps.length 0)[j]? = some i ∧ ∃ q, ps[i]? = some q ∧ Fv q y) = fun j y => ∃ q, ps[j]? = some q ∧ Fv q y := by
      funext j y
      rw [passing_tt]
      refine propext ⟨?_, ?_⟩
      · rintro ⟨i, hi, q, hq⟩
        have hj : j < ps.length := by
          have := (List.getElem?_eq_some_iff.mp hi).1
          simpa using this
        have : i = j := by simpa [hj] using hi.symm
        exact ⟨q, this ▸ hq⟩
      · rintro ⟨q, hq, hv⟩
        have hj : j < ps.length := (List.getElem?_eq_some_iff.mp hq).1
        exact ⟨j, by simp [hj], q, hq, hv⟩
    rw [eF, passing_tt, List.length_range] at W
    have hL : L < s.heap.objs.size := F.ns.lt
    refine h g _ led' (F'.keeps hk₅) (fun p hp => ⟨hk₅ _ _ (N' p hp).1, (N' p hp).2⟩) ht' hk' ha' (G.push hgb) rfl ?_ (Nat.le_sub_one_of_lt hL) ?_
    · refine ⟨_, _, _, _, W, hat, (fun i s' st => st.1.typeIs), List.mem_cons_self, ?_, ?_⟩
      · intro b hb
        show b < h₅.objs.size
        rw [hsz₅]
        rcases List.mem_cons.mp hb with rfl | hb
        · exact Nat.lt_succ_self _
        · rcases List.mem_cons.mp hb with rfl | hb
          · exact Nat.lt_succ_of_lt hlt
          · exact Nat.lt_succ_of_lt (Nat.lt_trans (List.mem_range.mp hb) hlt)
      · intro b hb
        rcases List.mem_cons.mp hb with rfl | hb
        · exact Nat.lt_of_le_of_lt (Nat.sub_le _ _) hsz'
        · rw [List.mem_singleton.mp hb]; exact Nat.sub_lt (Nat.lt_of_le_of_lt (Nat.zero_le _) hL) Nat.one_pos
    · intro p hp
      obtain ⟨q, hq, e⟩ := ha' p hp
      exact Nat.le_sub_one_of_lt (e ▸ Heap.lt_size (N q hq).1)
end
end XGenX
section XElts
set_option maxRecDepth 100000

example : True := by
  k_with_none
  trivial

open PySem.F
theorem args_sum2 (a b : Value) : argsOk "sum" ⟨[a, b], []⟩ := by unfold argsOk; kernel_rfl
noncomputable def catS (ps : List Str) : Str := ⟨(ps.flatMap (·.cps.toList)).toArray⟩
theorem foldl_cat : ∀ (ps : List Str) (acc : Array Nat), ps.foldl (fun acc p => acc ++ (Str.empty).cps ++ p.cps) acc = acc ++ (ps.flatMap (·.cps.toList)).toArray
  | [], acc => by simp
  | p :: r, acc => by
    rw [List.foldl_cons, foldl_cat r]
    apply Array.toList_inj.mp
    simp [Str.empty]
theorem join_cat (ps : List Str) : Txt.join Str.empty ps = catS ps := by
  show Builtin.Str.glued Str.empty ps = _
  unfold Builtin.Str.glued catS
  cases ps with
  | nil => rfl
  | cons p r =>
    rw [List.drop_one, List.tail_cons, foldl_cat, List.headD_cons]
    congr 1
    apply Array.toList_inj.mp
    simp
theorem catS_one (p : Str) : catS [Str.empty, p] = p := by
  unfold catS
  simp [Str.empty]
theorem catS_length (ps : List Str) : (catS ps).length = (ps.map (·.length)).sum := by
  induction ps with
  | nil => rfl
  | cons p r ih =>
    unfold catS Str.length at ih ⊢
    simp only [List.flatMap_cons, List.size_toArray, List.length_append, Array.length_toList, List.map_cons, List.sum_cons] at ih ⊢
    rw [ih]
section
variable {prog : Program} {w : World} {A : Around} {E : Value → Shared → Prop} {s : Shared} {env : Env} {D : Addr} {mu mg mb : Str → Option Value}
theorem nmLocal {x : Str} {p : Pos} {v : Value} {Q : Value → Shared → Prop} (hk : env.scope.kind = .function) (hx : env.kindOf x = some .local) (hn : s.heap.Ns env.locals mu) (hv : mu x = some v) (h : Q v s) (hd : (x == ("__debug__" : Str)) = false := by decide) :
    wpAny (model prog w) A (eval (.Name x p) env) Q E s := by
  rw [PySem.eval_Name (env := env) x p hd]
  exact wpAny_bind (wpAny_standAt (wpAny_loadName_local hk hx hn hv h))
theorem lenOf {x : Str} {p p1 p2 : Pos} {y : Str} {t : Tok} {Q : Value → Shared → Prop} (hk : env.scope.kind = .function) (hl : env.kindOf (Str.ofString "len") = some .globalImplicit) (hx : env.kindOf x = some .local)
    (hg : s.heap.Ns env.globals mg) (hm : mg (Str.ofString "len") = none) (hb : s.heap.Ns env.builtins mb) (hv : mb (Str.ofString "len") = some (.builtin "len")) (hn : s.heap.Ns env.locals mu) (hy : mu x = some (.str y t)) (hz : y.length < 2 ^ 62) (hd : (x == ("__debug__" : Str)) = false)
    (he : starEach [.Name x p] env = [(false, eval (.Name x p) env)])
    (h : Q (.int y.length (s.toks + 1)) { s with toks := s.toks + 1 + 1 }) : wpAny (model prog w) A (eval (.Call (.Name (Str.ofString "len") p1) [.Name x p] [] p2) env) Q E s := by
  refine wpAny_Call_NameR (Calls.Name_function_global hk hl (Calls.loadGlobal_builtin hg hm hb hv ?_))
  refine PyProof.Rows.callWith_builtin1 ?_ he
  rw [he]
  refine Calls.spliced_cons (nmLocal hk hx hn hy (Calls.spliced_nil ?_) hd)
  refine PyProof.Rows.len_str (by omega) h
theorem eltLen {xa xb : Str} {p1 p2 p3 p4 p5 p6 p7 : Pos} {q : Str} {t t' : Tok} (hk : env.scope.kind = .function) (hl : env.kindOf (Str.ofString "len") = some .globalImplicit) (ha : env.kindOf xa = some .local) (hb' : env.kindOf xb = some .local)
    (hg : s.heap.Ns env.globals mg) (hm : mg (Str.ofString "len") = none) (hb : s.heap.Ns env.builtins mb) (hv : mb (Str.ofString "len") = some (.builtin "len")) (hn : s.heap.Ns env.locals mu) (h1 : mu xa = some (.str Str.empty t)) (h2 : mu xb = some (.str q t')) (hz : q.length < 2 ^ 62)
    (hda : (xa == ("__debug__" : Str)) = false) (hdb : (xb == ("__debug__" : Str)) = false) (he1 : starEach [.Name xa p1] env = [(false, eval (.Name xa p1) env)]) (he2 : starEach [.Name xb p4] env = [(false, eval (.Name xb p4) env)]) :
    wpAny (model prog w) A (eval (.BinOp (.Call (.Name (Str.ofString "len") p2) [.Name xa p1] [] p3) .Add (.Call (.Name (Str.ofString "len") p5) [.Name xb p4] [] p6) p7) env) (fun y u' => (∃ t, y = .int q.length t) ∧ Keeps s u') E s := by
  refine wpAny_BinOp (lenOf hk hl ha hg hm hb hv hn h1 (by decide) hda he1 ?_)
  refine lenOf (s := { s with toks := s.toks + 1 + 1 }) hk hl hb' hg hm hb hv hn h2 hz hdb he2 ?_
  have e : ((Str.empty.length : Nat) : Int) + (q.length : Int) = (q.length : Int) := by rw [show Str.empty.length = 0 from rfl]; omega
  refine PyProof.Rows.add_int ?_
  rw [e]
  exact ⟨⟨_, rfl⟩, s.heap, _, rfl, fun _ _ e => e⟩
theorem eltJoin {xa xb : Str} {pl : Sem Bool} {p1 p2 p3 p4 p5 p6 : Pos} {kt : Nat} {q : Str} {t t' te : Tok} (hk : env.scope.kind = .function) (hl : env.kindOf (Str.ofString "EMPTYSTRING") = some .globalImplicit) (ha : env.kindOf xa = some .local) (hb' : env.kindOf xb = some .local)
    (hg : s.heap.Ns env.globals mg) (hm : mg (Str.ofString "EMPTYSTRING") = some (.str Str.empty te)) (hn : s.heap.Ns env.locals mu) (h1 : mu xa = some (.str Str.empty t)) (h2 : mu xb = some (.str q t')) (hz : q.length < 2 ^ 20)
    (hda : (xa == ("__debug__" : Str)) = false) (hdb : (xb == ("__debug__" : Str)) = false)
    (he1 : starEach [.Name xa p1, .Name xb p2] env = [(false, eval (.Name xa p1) env), (false, eval (.Name xb p2) env)]) (he2 : starEach [.Tuple [.Name xa p1, .Name xb p2] kt p3] env = [(false, eval (.Tuple [.Name xa p1, .Name xb p2] kt p3) env)])
    (hmc : eval (.Call (.Attribute (.Name (Str.ofString "EMPTYSTRING") p4) (Str.ofString "join") p5) [.Tuple [.Name xa p1, .Name xb p2] kt p3] [] p6) env = (do
      let ov ← eval (.Name (Str.ofString "EMPTYSTRING") p4) env
      standAt p5.atName
      let (f, first) ← holding [ov] (getMethod ov (Str.ofString "join") pl)
      callWith p6 f first (backTo p6 (starEach [.Tuple [.Name xa p1, .Name xb p2] kt p3] env)) [])) :
    wpAny (model prog w) A (eval (.Call (.Attribute (.Name (Str.ofString "EMPTYSTRING") p4) (Str.ofString "join") p5) [.Tuple [.Name xa p1, .Name xb p2] kt p3] [] p6) env) (fun y u' => (∃ t, y = .str q t) ∧ Keeps s u') E s := by
  refine MethodCall_ (pl := pl) ?_ hmc
  refine Calls.Name_function_global hk hl (Calls.loadGlobal_global hg hm ?_)
  refine GM.join ?_
  refine PyProof.Rows.callWith_method1 ?_ he2
  rw [he2]
  refine Calls.spliced_cons ?_
  refine PyProof.Rows.Tuple_ (k := kt) ?_
  rw [he1]
  refine Calls.spliced_cons (nmLocal hk ha hn h1 (Calls.spliced_cons (nmLocal hk hb' hn h2 (Calls.spliced_nil ?_) hdb)) hda)
  refine wpAny_newObj_type ?_ (by size_fits)
  refine Calls.spliced_nil ?_
  refine join_tuple (items := #[.str Str.empty t, .str q t']) (ys := [Str.empty, q]) ⟨_, Heap.get?_push_size _ rfl, rfl, _, rfl⟩ (.cons _ _ (.cons _ _ .nil)) ?_ fun t9 k9 => ?_
  · show ([Str.empty, q].map (·.length)).sum + 2 * 0 ≤ _
    simp only [List.map_cons, List.map_nil, List.sum_cons, List.sum_nil]
    have : Str.empty.length = 0 := rfl
    omega
  · refine ⟨⟨t9, ?_⟩, _, _, rfl, fun b o e => Heap.get?_push_of_some _ e⟩
    rw [join_cat, catS_one]
theorem call_sum0 {x : Value} {t0 : Tok} {Q : Value → Shared → Prop}
    (h : wpAny (model prog w) A.in1 (pyIter x) (fun it s₂ => ∃ I fp wr G n P St val, it = .ref I ∧ WalksS prog w A.in1 I fp wr G n P St ∧ St 0 s₂ ∧ (∀ b ∈ fp, b < s₂.heap.objs.size) ∧
      (∀ i v, P i v → ∃ t, v = .int (val i) t) ∧
      ∀ s' t', Moved wr G s₂ s' → Q (.int (preSum val n) t') s') E s) :
    wpAny (model prog w) A (call (.builtin "sum") [x, .int 0 t0]) Q E s := by
  refine call_function_tree F.kind_sum F.plain_sum F.entry_sum (args_sum2 _ _) ?_
  unfold Builtin.«sum»
  simp only [List.length_cons, List.length_nil]
  first | refine wpAny_no (by decide) ?_ | refine wpC_no (by decide) ?_ | rw [if_neg (by decide)]
  refine wpAny_bind (wpAny_of_eq (show Builtin.Builtins.bindParams "sum" ["start"] 0 ⟨[.int 0 t0], []⟩ = pure [some (.int 0 t0)] from rfl) ?_)
  refine wpAny_bind (wpAny_mono h (fun it s₂ h₂ => ?_) fun _ _ e => e)
  obtain ⟨I, fp, wr, G, n, P, St, val, rfl, W, hst, hfp, hval, hQ⟩ := h₂
  dsimp only
  refine wpAny_bind ?_
  refine wpAny_rule (wpAny_bind (wpAny_mkInt (wpAny_bind (wpAny_pure ?_))))
  simp only [List.forIn_cons, List.forIn_nil]
  refine wpAny_bind (wpAny_bind (wpAny_bind (wpAny_isInstance (T := "int") (b := false) (typeIs_int _ _ _) PySem.sub_int_str ?_)))
  first | refine wpAny_no Bool.false_ne_true ?_ | refine wpC_no Bool.false_ne_true ?_ | simp only [Bool.false_eq_true, if_false]
  refine wpAny_pure (wpAny_bind (wpAny_bind (wpAny_isInstance (T := "int") (b := false) (typeIs_int _ _ _) PySem.sub_int_bytes ?_)))
  first | refine wpAny_no Bool.false_ne_true ?_ | refine wpC_no Bool.false_ne_true ?_ | simp only [Bool.false_eq_true, if_false]
  refine wpAny_pure (wpAny_bind (wpAny_bind (wpAny_isInstance (T := "int") (b := false) (typeIs_int _ _ _) PySem.sub_int_bytearray ?_)))
  first | refine wpAny_no Bool.false_ne_true ?_ | refine wpC_no Bool.false_ne_true ?_ | simp only [Bool.false_eq_true, if_false]
  refine wpAny_pure (wpAny_pure ?_)
  refine wpAny_bind (wpAny_newObj_type ?_)
  have hSf : s₂.heap.objs.size ∉ fp := fun hm => Nat.lt_irrefl _ (hfp _ hm)
  refine wpAny_pure ⟨plainId_quiet F.plain_sum_loop _, codeAny_sum_loopAnyS W val hval s₂.heap.objs.size hSf n 0 _ s₂.toks 0 0 (.inl rfl) rfl (Nat.zero_le _)
    (W.frame 0 s₂ _ _ hst (by first | exact Nat.le_refl _ | exact Nat.le_succ _ | omega) fun b _ o e => Heap.get?_push_of_some _ e) (Heap.get?_push_size _ rfl) fun s' t' hm => ?_⟩
  exact hQ s' t' (hm.drop_new (by first | exact Nat.le_refl _ | exact Nat.le_succ _ | omega))
theorem sum_gen0 {h₀ : Heap} {L Kb g : Addr} {m : Str → Option Value} {n : Nat} {P : Nat → Value → Prop} {t0 : Tok} {Q : Value → Shared → Prop} (Fh : Fr h₀ L s.heap m) (G : AllBare s.gens) (X : Gen prog w A Kb g n P s) (hLK : L ≤ Kb) (val : Nat → Int) (hval : ∀ j v, P j v → ∃ t, v = .int (val j) t)
    (hQ : ∀ s' t', Fr h₀ L s'.heap m → AllBare s'.gens → s'.os = s.os → (∀ b o, b ≤ Kb → s.heap.get? b = some o → s'.heap.get? b = some o) → Q (.int (preSum val n) t') s') : wpAny (model prog w) A (call (.builtin "sum") [.ref g, .int 0 t0]) Q E s := by
  obtain ⟨fp, wr, g', St, W, hst, _, _, hfp, hwr⟩ := X
  have W := W.in4_1
  exact call_sum0 (W.self 0 _ _ _ hst ⟨g, _, _, _, _, _, _, val, rfl, W, hst, hfp, hval, fun s' t' hm => hQ s' t' (Fh.moved hm fun b hb => Nat.lt_of_le_of_lt hLK (hwr b hb)) (G.movedS hm) hm.os fun b o hb e => hm.heap b o (fun hmem => Nat.lt_irrefl _ (Nat.lt_of_lt_of_le (hwr b hmem) hb)) e⟩)
theorem preSum_eq (f : Nat → Int) : ∀ n, preSum f n = ((List.range n).map f).sum
  | 0 => rfl
  | n + 1 => by
    rw [List.range_succ, List.map_append, List.sum_append, ← preSum_eq f n]
    simp [preSum]
end
end XElts
section XAccM
set_option maxRecDepth 100000

example : True := by
  k_with_none
  trivial

structure PrOk (prog : Program) : Prop where
  file : ((prog.main.file : Str) == (Str.ofString "/claim/cut.py")) = true
  sup : (prog.main.scope.names.lookup (Str.ofString "super")).isSome = false
noncomputable abbrev accD (hsh : Int) (tk u : Tok) : Obj := dictOf [⟨hsh, .str (Str.ofString "_initial_size") tk, .int 0 u⟩] 1
noncomputable abbrev tupO (vs : List Value) : Obj := { cls := .type "tuple", data := .seq vs.toArray }
section
variable {prog : Program} {w : World} {A : Around} {E : Value → Shared → Prop} {s : Shared} {x dx L : Addr} {h₀ : Heap} {m : Str → Option Value} {news : List (Addr × Obj)} {n : Nat} {its : Array Value} {hsh : Int} {tk u : Tok}
theorem accK (P : Params) : accCls (Mine.hd.heap_39 P) 213 = true := by kernel_rfl
theorem acc_meth {name : Str} {f : Addr} {pl : Sem Bool} {Q : Value × List Value → Shared → Prop} (F : Fr h₀ L s.heap m) (X : (Mine.hd.heap_39 w.params).In h₀) (N : News h₀ L s.heap news) (hx : (x, accObj 213 dx its n) ∈ news) (hdx : (dx, accD hsh tk u) ∈ news)
    (hf : findIn (Mine.hd.heap_39 w.params) (.ref 213) name = some (some (.ref f))) (ht : typeIn (Mine.hd.heap_39 w.params) (.ref f) = some (.type "function")) (hn : (Str.ofString "_initial_size" == name) = false) (h : Q (.ref f, [.ref x]) s) :
    wpAny (model prog w) A (getMethod (.ref x) name pl) Q E s := by
  have X1 := X.keeps F.keep
  refine acc_getMethod X1 (acc_inst F N hx hdx) rfl (N _ hdx).1 (by kernel_rfl) (by kernel_rfl) hf (looks_typeIn X1 ht) (.inl rfl) ?_ h
  rw [lookIn_dict]
  unfold getL
  simp only [List.find?_cons, List.find?_nil, Value.isStr, hn]
  rfl
theorem acc_methA {pl : Sem Bool} {Q : Value × List Value → Shared → Prop} (F : Fr h₀ L s.heap m) (X : (Mine.hd.heap_39 w.params).In h₀) (N : News h₀ L s.heap news) (hx : (x, accObj 213 dx its n) ∈ news) (hdx : (dx, accD hsh tk u) ∈ news)
    (h : Q (.builtin "list.append", [.ref x]) s) : wpAny (model prog w) A (getMethod (.ref x) (Str.ofString "append") pl) Q E s := by
  have X1 := X.keeps F.keep
  refine acc_getMethod X1 (acc_inst F N hx hdx) rfl (N _ hdx).1 (by kernel_rfl) (by kernel_rfl) (f := .builtin "list.append") (by kernel_rfl) (Looks.of_pure PySem.F.type_list_append) (.inr (.inl rfl)) ?_ h
  rfl
theorem acc_app {its : List Value} {v : Value} {Q : Value → Shared → Prop} (F : Fr h₀ L s.heap m) (X : (Mine.hd.heap_39 w.params).In h₀) (N : News h₀ L s.heap news) (hx : (x, accObj 213 dx its.toArray n) ∈ news) (hdx : (dx, accD hsh tk u) ∈ news) (hz : its.length < 2 ^ 20)
    (h : ∀ h' led' n', Fr h₀ L h' m → News h₀ L h' led' → (x, accObj 213 dx (its ++ [v]).toArray n') ∈ led' → (∀ p ∈ news, p.1 ≠ x → p ∈ led') → (∀ p ∈ led', ∃ q ∈ news, q.1 = p.1) → Q .none { s with heap := h' }) :
    wpAny (model prog w) A (call (.builtin "list.append") [.ref x, v]) Q E s := by
  refine acc_append F X N (accK _) hx hdx (by rw [List.size_toArray]; exact hz) fun h' led' n' F' N' hm hk ha => h h' led' n' F' N' ?_ hk ha
  have e : its.toArray.push v = (its ++ [v]).toArray := by simp
  rw [← e]; exact hm
theorem callWithB0 {T i : String} {q : Addr} {B : Builtin} {pos : Pos} {env : Env} {Q : Value → Shared → Prop} (N : News h₀ L s.heap news) (hb : (q, boundB T i x) ∈ news) (hT : T = "builtin_function_or_method" ∨ T = "method-wrapper") (hp : plainId i = true) (he : entryFor table i = some B)
    (hc : ∀ (A : Around) (Q : Unit → Shared → Prop) (E : Value → Shared → Prop), Q () s → wpAny (model prog w) A (checkBoundCall i ⟨[.ref x], []⟩) Q E s)
    (h : wpAny (model prog w) A.in1 (B ⟨[.ref x], []⟩) (fun fin s' => ∃ v, fin = .done (.ret v) ∧ Q v s') (fun _ _ => False) s) :
    wpAny (model prog w) A (callWith pos (.ref q) [] (backTo pos (starEach [] env)) []) Q E s := by
  show wpAny (model prog w) A (callWith pos (.ref q) [] [] []) Q E s
  have hq := (N _ hb).1
  unfold callWith
  refine wpAny_bind (wpAny_holding (PyProof.Rows.evalArgs_none (wpAny_bind (wpAny_standAt ?_))))
  simp only [List.any_nil, Bool.or_false]
  refine wpAny_bind (m := keeperOf (.ref q)) ?_
  unfold keeperOf
  refine wpAny_bind (wpAny_load hq ?_)
  have e1 : (Value.type T != Value.type "method") = true := by rcases hT with rfl | rfl <;> rfl
  have e2 : (Value.type T == Value.type "builtin_function_or_method" || Value.type T == Value.type "method-wrapper") = true := by rcases hT with rfl | rfl <;> rfl
  simp only [boundB, e1, e2, if_true]
  refine wpAny_pure ?_
  exact wpAny_bind (wpAny_mono (call_boundB N hb hT hp he hc h) (fun r s₂ hr => wpAny_bind (wpAny_holding (wpAny_point (wpAny_pure hr)))) fun _ _ x => x)
theorem sup_len {so : Addr} {od : Obj} {pl : Sem Bool} {Q : Value × List Value → Shared → Prop} (F : Fr h₀ L s.heap m) (X : (Mine.hd.heap_39 w.params).In h₀) (N : News h₀ L s.heap news) (hso : (so, ks_superObj 213 x 213) ∈ news) (hx : (x, accObj 213 dx its n) ∈ news) (hdx : (dx, od) ∈ news)
    (h : ∀ q h', Fr h₀ L h' m → News h₀ L h' ((q, boundB "method-wrapper" "list.__len__" x) :: news) → (∀ p ∈ news, p.1 < q) → Q (.ref q, []) { s with heap := h', toks := s.toks + 1 }) : wpAny (model prog w) A (getMethod (.ref so) (Str.ofString "__len__") pl) Q E s :=
  super_methodB F X N hso (acc_inst F N hx hdx) (by kernel_rfl) (by kernel_rfl) type_len slot_wd_get.lookup (by decide) (fun A s Q E hi hq => call_get slot_wd_get entry_wd_get type_len (args_wd_get _ _ _) (get_len _ _) hi hq) (acc_list (X.keeps F.keep) (accK _) (acc_inst F N hx hdx)) h
theorem sup_init {so : Addr} {od : Obj} {pl : Sem Bool} {Q : Value × List Value → Shared → Prop} (F : Fr h₀ L s.heap m) (X : (Mine.hd.heap_39 w.params).In h₀) (N : News h₀ L s.heap news) (hso : (so, ks_superObj 213 x 213) ∈ news) (hx : (x, accObj 213 dx its n) ∈ news) (hdx : (dx, od) ∈ news)
    (h : ∀ q h', Fr h₀ L h' m → News h₀ L h' ((q, boundB "method-wrapper" "list.__init__" x) :: news) → (∀ p ∈ news, p.1 < q) → Q (.ref q, []) { s with heap := h', toks := s.toks + 1 }) : wpAny (model prog w) A (getMethod (.ref so) (Str.ofString "__init__") pl) Q E s :=
  super_methodB F X N hso (acc_inst F N hx hdx) (by kernel_rfl) (by kernel_rfl) type_init slot_wd_get.lookup (by decide) (fun A s Q E hi hq => call_get slot_wd_get entry_wd_get type_init (args_wd_get _ _ _) (get_init _ _) hi hq) (acc_list (X.keeps F.keep) (accK _) (acc_inst F N hx hdx)) h
theorem sup_pop {so : Addr} {od : Obj} {pl : Sem Bool} {Q : Value × List Value → Shared → Prop} (F : Fr h₀ L s.heap m) (X : (Mine.hd.heap_39 w.params).In h₀) (N : News h₀ L s.heap news) (hso : (so, ks_superObj 213 x 213) ∈ news) (hx : (x, accObj 213 dx its n) ∈ news) (hdx : (dx, od) ∈ news)
    (h : ∀ q h', Fr h₀ L h' m → News h₀ L h' ((q, boundB "builtin_function_or_method" "list.pop" x) :: news) → (∀ p ∈ news, p.1 < q) → Q (.ref q, []) { s with heap := h', toks := s.toks + 1 }) : wpAny (model prog w) A (getMethod (.ref so) (Str.ofString "pop") pl) Q E s :=
  super_methodB F X N hso (acc_inst F N hx hdx) (by kernel_rfl) (by kernel_rfl) type_pop slot_md_get.lookup (by decide) (fun A s Q E hi hq => call_get slot_md_get entry_md_get type_pop (args_md_get _ _ _) (get_pop _ _) hi hq) (acc_list (X.keeps F.keep) (accK _) (acc_inst F N hx hdx)) h
theorem supc_len {q : Addr} {od : Obj} {pos : Pos} {env : Env} {Q : Value → Shared → Prop} (F : Fr h₀ L s.heap m) (N : News h₀ L s.heap news) (hb : (q, boundB "method-wrapper" "list.__len__" x) ∈ news) (hx : (x, accObj 213 dx its n) ∈ news) (hdx : (dx, od) ∈ news)
    (h : ∀ t, Q (.int its.size t) { s with toks := s.toks + 1 }) : wpAny (model prog w) A (callWith pos (.ref q) [] (backTo pos (starEach [] env)) []) Q E s :=
  callWithB0 N hb (.inr rfl) PySem.F.slot_list_len.plain PySem.F.entry_list_len (fun A Q E hq => wpAny_of_eq (bound_len x) hq) (acc_len F N hx hdx h)
theorem supc_init {q : Addr} {od : Obj} {pos : Pos} {env : Env} {Q : Value → Shared → Prop} (F : Fr h₀ L s.heap m) (N : News h₀ L s.heap news) (hb : (q, boundB "method-wrapper" "list.__init__" x) ∈ news) (hx : (x, accObj 213 dx #[] n) ∈ news) (hdx : (dx, od) ∈ news)
    (h : ∀ h' led' n', Fr h₀ L h' m → News h₀ L h' led' → (x, accObj 213 dx #[] n') ∈ led' → (∀ p ∈ news, p.1 ≠ x → p ∈ led') → (∀ p ∈ led', ∃ q ∈ news, q.1 = p.1) → Q .none { s with heap := h' }) : wpAny (model prog w) A (callWith pos (.ref q) [] (backTo pos (starEach [] env)) []) Q E s :=
  callWithB0 N hb (.inr rfl) PySem.F.slot_list_init.plain PySem.F.entry_list_init (fun A Q E hq => wpAny_of_eq (bound_init x) hq) (acc_init0 F N hx hdx h)
theorem acc_qual (P : Params) : (clsIn (Mine.hd.heap_39 P) 213).map (·.qualname) = some (Str.ofString "_Accumulator") := by kernel_rfl
theorem acc_type (P : Params) : typeIn (Mine.hd.heap_39 P) (.ref 213) = some (.type "type") := by kernel_rfl
theorem pop_varargs : Manifest.varargsMethods.contains "list.pop" = false := by decide +kernel
theorem pop_sig (x : Addr) : ∃ sig, Manifest.signature? "list.pop" = some sig ∧ Bind.checkArgs "list.pop" { sig with full := s!"{(Str.ofString "_Accumulator").toString}.{Bind.lastOf "list.pop"}" } ⟨[.ref x], []⟩ = pure () := by
  have h : (match Manifest.signature? "list.pop" with | some sig => Bind.checkArgs "list.pop" { sig with full := s!"{(Str.ofString "_Accumulator").toString}.{Bind.lastOf "list.pop"}" } ⟨[.ref x], []⟩ | none => pure ()) = pure () := by kernel_rfl
  have h2 : (Manifest.signature? "list.pop").isSome = true := by decide +kernel
  cases hs : Manifest.signature? "list.pop" with
  | none => rw [hs] at h2; cases h2
  | some sig => rw [hs] at h; exact ⟨sig, rfl, h⟩
theorem supc_pop {its : List Value} {v : Value} {q : Addr} {od : Obj} {pos : Pos} {env : Env} {Q : Value → Shared → Prop} (F : Fr h₀ L s.heap m) (N : News h₀ L s.heap news) (X : (Mine.hd.heap_39 w.params).In h₀) (hb : (q, boundB "builtin_function_or_method" "list.pop" x) ∈ news) (hx : (x, accObj 213 dx (its ++ [v]).toArray n) ∈ news) (hdx : (dx, od) ∈ news) (hz : its.length < 2 ^ 19)
    (h : ∀ h' led' n', Fr h₀ L h' m → News h₀ L h' led' → (x, accObj 213 dx its.toArray n') ∈ led' → (∀ p ∈ news, p.1 ≠ x → p ∈ led') → (∀ p ∈ led', ∃ q ∈ news, q.1 = p.1) → Q v { s with heap := h' }) : wpAny (model prog w) A (callWith pos (.ref q) [] (backTo pos (starEach [] env)) []) Q E s := by
  refine callWithB0 N hb (.inl rfl) PySem.F.slot_list_pop.plain PySem.F.entry_list_pop (fun A Q E hq => ?_) (acc_pop F N hx hdx hz h)
  have X1 := X.keeps F.keep
  have I := acc_inst F N hx hdx
  have L0 := I.type (M := model prog w)
  obtain ⟨cd, hc, _, hm⟩ := acc_mro (accK w.params)
  have hq2 : cd.qualname = Str.ofString "_Accumulator" := by
    have := acc_qual w.params
    rw [hc] at this
    exact Option.some.inj this
  have Lm : Looks (model prog w) s.heap (isInstance (.ref x) (.type "module")) false := I.type.andThen (looks_mroIn X1 (by unfold mroIn; rw [hc, Option.bind_some, hm]; rfl))
  have Lt : Looks (model prog w) s.heap (isType (.ref x)) false := by
    unfold isType
    exact (Looks.ld I.at_).andThen .now
  have Lc : Looks (model prog w) s.heap (classData 213) cd := looks_clsIn X1 hc
  have Lk : Looks (model prog w) s.heap (typeOf (.ref 213)) (.type "type") := looks_typeIn X1 (acc_type w.params)
  unfold checkBoundCall
  obtain ⟨sig, hs, ha⟩ := pop_sig x
  rw [hs]
  dsimp only
  rw [lk_pop]
  dsimp only
  first | refine wpAny_no (by decide) ?_ | refine wpC_no (by decide) ?_ | rw [if_neg (by decide)]
  refine wpAny_bind (Lm.here ?_)
  first | refine wpAny_no (by rw [pop_varargs]; decide) ?_ | refine wpC_no (by rw [pop_varargs]; decide) ?_ | rw [if_neg (by rw [pop_varargs]; decide)]
  refine wpAny_bind (Lt.here ?_)
  first | refine wpAny_no (by decide) ?_ | refine wpC_no (by decide) ?_ | rw [if_neg (by decide)]
  refine wpAny_bind (L0.here ?_)
  dsimp only
  refine wpAny_bind (Lc.here (wpAny_bind (Lk.here ?_)))
  rw [if_pos (by rfl), hq2]
  exact wpAny_of_eq ha hq
end
noncomputable def Goes (s s' : Shared) : Prop := (AllBare s.gens → AllBare s'.gens) ∧ s'.os = s.os
theorem Goes.same {s : Shared} (h : Heap) (tk : Nat) : Goes s { s with heap := h, toks := tk } := ⟨id, rfl⟩
theorem Goes.trans {a b c : Shared} (x : Goes a b) (y : Goes b c) : Goes a c := ⟨fun g => y.1 (x.1 g), y.2.trans x.2⟩
noncomputable def AccIs (led : List (Addr × Obj)) (x dx : Addr) (ps : List Str) : Prop :=
  ∃ (n : Nat) (hsh : Int) (tk u : Tok) (as : List Addr), (x, accObj 213 dx (as.map Value.ref).toArray n) ∈ led ∧ (dx, accD hsh tk u) ∈ led ∧ as.length = ps.length ∧ ∀ (i : Nat) b p, as[i]? = some b → ps[i]? = some p → ∃ t t', (b, tupO [.str Str.empty t, .str p t']) ∈ led
section
variable {h₀ h : Heap} {L x dx d : Addr} {led led' : List (Addr × Obj)} {ps : List Str} {o : Obj}
theorem AccIs.other (S : AccIs led x dx ps) (N : News h₀ L h led) (hd : (d, o) ∈ led) (h1 : d ≠ x) (h2 : d ≠ dx) (h3 : o.cls ≠ .type "tuple") (hk : ∀ p ∈ led, p.1 ≠ d → p ∈ led') : AccIs led' x dx ps := by
  obtain ⟨n, hsh, tk, u, as, a1, a2, a3, a4⟩ := S
  refine ⟨n, hsh, tk, u, as, hk _ a1 (Ne.symm h1), hk _ a2 (Ne.symm h2), a3, fun i b p hb hp => ?_⟩
  obtain ⟨t, t', ht⟩ := a4 i b p hb hp
  refine ⟨t, t', hk _ ht fun e => h3 ?_⟩
  have e' : b = d := e
  subst e'
  rw [news_same N hd ht]
theorem AccIs.grow (S : AccIs led x dx ps) (hk : ∀ p ∈ led, p ∈ led') : AccIs led' x dx ps := by
  obtain ⟨n, hsh, tk, u, as, a1, a2, a3, a4⟩ := S
  exact ⟨n, hsh, tk, u, as, hk _ a1, hk _ a2, a3, fun i b p hb hp => let ⟨t, t', ht⟩ := a4 i b p hb hp; ⟨t, t', hk _ ht⟩⟩
theorem acc_ne {n : Nat} {its : Array Value} {hsh : Int} {tk u : Tok} (N : News h₀ L h led) (h1 : (x, accObj 213 dx its n) ∈ led) (h2 : (dx, accD hsh tk u) ∈ led) : dx ≠ x := fun e => by
  subst e
  have := news_same N h1 h2
  cases this
theorem tup_ne {n : Nat} {its : Array Value} {vs : List Value} {b : Addr} (N : News h₀ L h led) (h1 : (x, accObj 213 dx its n) ∈ led) (h2 : (b, tupO vs) ∈ led) : b ≠ x := fun e => by
  subst e
  have := news_same N h1 h2
  cases this
theorem AccIs.pushed {n n' : Nat} {hsh : Int} {tk u t t' : Tok} {as : List Addr} {T : Addr} {p : Str} (N : News h₀ L h led) (a1 : (x, accObj 213 dx (as.map Value.ref).toArray n) ∈ led) (a2 : (dx, accD hsh tk u) ∈ led) (a3 : as.length = ps.length) (a4 : ∀ (i : Nat) b p, as[i]? = some b → ps[i]? = some p → ∃ t t', (b, tupO [.str Str.empty t, .str p t']) ∈ led)
    (hm : (x, accObj 213 dx (as.map Value.ref ++ [Value.ref T]).toArray n') ∈ led') (hT : (T, tupO [.str Str.empty t, .str p t']) ∈ led') (hk : ∀ p ∈ led, p.1 ≠ x → p ∈ led') : AccIs led' x dx (ps ++ [p]) := by
  refine ⟨n', hsh, tk, u, as ++ [T], by rw [List.map_append]; exact hm, hk _ a2 (acc_ne N a1 a2), by simp [a3], fun i b q hb hq => ?_⟩
  by_cases hi : i < as.length
  · rw [List.getElem?_append_left hi] at hb
    rw [List.getElem?_append_left (a3 ▸ hi)] at hq
    obtain ⟨t, t', ht⟩ := a4 i b q hb hq
    exact ⟨t, t', hk _ ht (tup_ne N a1 ht)⟩
  · have hl : i < as.length + 1 := by
      have := (List.getElem?_eq_some_iff.mp hb).1
      rw [List.length_append, List.length_singleton] at this
      exact this
    have e : i = as.length := by omega
    subst e
    rw [List.getElem?_append_right (Nat.le_refl _), Nat.sub_self] at hb
    rw [List.getElem?_append_right (Nat.le_of_eq a3.symm), a3, Nat.sub_self] at hq
    cases hb
    cases hq
    exact ⟨_, _, hT⟩
theorem AccIs.pairs {as : List Addr} (N : News h₀ L h led) (a3 : as.length = ps.length) (a4 : ∀ (i : Nat) b p, as[i]? = some b → ps[i]? = some p → ∃ t t', (b, tupO [.str Str.empty t, .str p t']) ∈ led) : PairsAt h as ps :=
  ⟨a3, fun i b p hb hp => let ⟨t, t', ht⟩ := a4 i b p hb hp; ⟨t, t', _, (N _ ht).1, rfl, _, rfl⟩⟩
end
example : True := by
  k_with "getMethod ref" => (k_here; k_dflt (refine' acc_methA ?wkF ?wkX ?wkN ?wkhx ?wkhdx ?_; (case wkF => k_asm); (case wkX => k_asm); (case wkN => k_asm); (case wkhx => k_mem); (case wkhdx => k_mem)))
  k_with "getMethod ref" => (k_here; k_dflt (refine' acc_meth ?wkF ?wkX ?wkN ?wkhx ?wkhdx ?wkhf ?wkht ?wkhn ?_; (case wkF => k_asm); (case wkX => k_asm); (case wkN => k_asm); (case wkhx => k_mem); (case wkhdx => k_mem); (case wkhf => k_is); (case wkht => k_is); (case wkhn => decide)))
  k_with "call builtin:list.append" => (k_here; k_dflt (refine' acc_app ?wkF ?wkX ?wkN ?wkhx ?wkhdx ?wkhz ?_; (case wkF => k_asm); (case wkX => k_asm); (case wkN => k_asm); (case wkhx => k_mem); (case wkhdx => k_mem); (case wkhz => omega)); intro _ _ _ _ _ _ _ _)
  k_with "wpAt" => (ks_step "attributeBase Call"; k_here; k_dflt (refine ks_node (by k_asm) (by k_asm) (by k_asm) (by k_asm) (by k_is) (by rfl) (by rfl) (acc_inst (by k_asm) (by k_asm) (by k_mem) (by k_mem)) (by k_is) (by rfl) (PrOk.file (by assumption)) (by k_is) (by k_is) (by k_is) (by k_is) (by decide) (by rfl) (by rfl) (by rfl) (by rfl) (PrOk.sup (by assumption)) (by first | boot_by_name | rfl | kernel_rfl) ?_; intro _ _ _ _ _))
  k_with "getMethod ref" => (k_here; k_dflt (first | ((with_reducible show wpAny _ _ (getMethod (Value.ref _) (PySem.Str.ofString "__len__") _) _ _ _); refine' sup_len ?wkF ?wkX ?wkN ?wkhso ?wkhx ?wkhdx ?_; (case wkN => k_asm); (case wkhso => k_mem); (case wkF => k_asm); (case wkX => k_asm); (case wkhx => k_mem); (case wkhdx => k_mem)) | ((with_reducible show wpAny _ _ (getMethod (Value.ref _) (PySem.Str.ofString "pop") _) _ _ _); refine' sup_pop ?wkF ?wkX ?wkN ?wkhso ?wkhx ?wkhdx ?_; (case wkN => k_asm); (case wkhso => k_mem); (case wkF => k_asm); (case wkX => k_asm); (case wkhx => k_mem); (case wkhdx => k_mem)) | ((with_reducible show wpAny _ _ (getMethod (Value.ref _) (PySem.Str.ofString "__init__") _) _ _ _); refine' sup_init ?wkF ?wkX ?wkN ?wkhso ?wkhx ?wkhdx ?_; (case wkN => k_asm); (case wkhso => k_mem); (case wkF => k_asm); (case wkX => k_asm); (case wkhx => k_mem); (case wkhdx => k_mem))); intro _ _ _ _ _)
  k_with "callWith" => (k_here; k_dflt (first | (refine' supc_len ?wkF ?wkN ?wkhb ?wkhx ?wkhdx ?_; (case wkN => k_asm); (case wkhb => k_mem); (case wkF => k_asm); (case wkhx => k_mem); (case wkhdx => k_mem); intro _) | (refine' supc_init ?wkF ?wkN ?wkhb ?wkhx ?wkhdx ?_; (case wkN => k_asm); (case wkhb => k_mem); (case wkF => k_asm); (case wkhx => k_mem); (case wkhdx => k_mem); intro _ _ _ _ _ _ _ _)))
  k_with "call ref" => refine Held.mk ?_
  trivial
section
variable {prog : Program} {w : World} {p : Program} {loose : List Str} {mean : ExcName → Option Value} {mg mb : Str → Option Value}
set_option maxHeartbeats 4000000 in
theorem pushC {dp un : Nat} {gd : Option (List Code)} {cn : Str} {cs : Scope} {a : Addr} {ccd : Value} {cl : List (Str × Addr)} {outer : List Env} {A₀ : Around} {base h₀ : Heap} {L : Addr} {m : Str → Option Value} {s : Shared} {Q E : Value → Shared → Prop} {news : List (Addr × Obj)} {x dx : Addr} {ps : List Str} {tf tp : Tok} {p' : Str}
    (B : Below A₀ base outer h₀) (F : Fr h₀ L s.heap m) (X : (Mine.hd.heap_39 w.params).In h₀) (N : News h₀ L s.heap news) (T : Top p loose mean mg mb h₀) (hk : cs.kind = .function) (S : AccIs news x dx ps) (hz : ps.length < 2 ^ 16) (hd : dp + 20 < recursionLimit) (hu : un + 150 < cLine)
    (hret : ∀ s' led', Fr h₀ L s'.heap m → News h₀ L s'.heap led' → Goes s s' → AccIs led' x dx (ps ++ [p']) → (∀ q ∈ news, q.1 ≠ x → q ∈ led') → Q .none s') :
    wpAny (model prog w) (ktrTop dp un gd cn cs L a ccd cl outer) (call (.ref 157) [.ref x, .str Str.empty tf, .str p' tp]) Q E s := by
  obtain ⟨n, hsh, tk, u, as, hx, hdx, hl, hp⟩ := S
  have hz2 : (as.map Value.ref).length < 2 ^ 16 := by rw [List.length_map, hl]; exact hz
  refine wpAny_call ?_
  k_dflt (refine' code_def ?k1 ?k2 ?k3 ?k4 ?k5 ?kA ?kF ?kK ?k6 ?k7 ?k8 ?k9 ?kB ?_ ?c2 ?c3 ?c4 ?c5; (case kA => exact rfl); (case kF => exact rfl); (case kK => first | assumption | exact rfl); (case k1 => k_asm); (case k2 => k_asm); (case k3 => k_asm); (case k4 => k_asm); (case k5 => k_asm); (case k6 => k_is); (case k7 => k_is); (case k8 => ktr_room); (case k9 => first | exact BindsTo.of_eq rfl | exact binds_K (by k_in) rfl (by k_is) rfl rfl rfl | (refine' kp_binds ?kx ?ke; (case kx => k_in); (case ke => exact fun _ => rfl)) | fail "x_enter: no rule for these arguments"); (case c5 => decide); (case kB => exact locs rfl); (case c2 => exact rfl); (case c3 => exact rfl); (case c4 => exact rfl); k_whole; intro g' L' h' FG' F' N' B' X' T'; (try dsimp only); (try k_lift B'); (try k_fold))
  k_steps
  rename_i _ T _ _ _ l1 _ led9 n9 _ _ hm9 hk9 _ _ _ _ _
  refine hret _ led9 (by k_asm) (by k_asm) (Goes.same _ _) ?_ fun q hq hn => hk9 _ (.tail _ hq) hn
  exact AccIs.pushed N hx hdx hl hp hm9 (hk9 _ (.head _) (Nat.ne_of_gt (l1 _ hx))) fun q hq hn => hk9 _ (.tail _ hq) hn
set_option maxHeartbeats 4000000 in
theorem partC (hpr : PrOk prog) {dp un : Nat} {gd : Option (List Code)} {cn : Str} {cs : Scope} {a : Addr} {ccd : Value} {cl : List (Str × Addr)} {outer : List Env} {A₀ : Around} {base h₀ : Heap} {L : Addr} {m : Str → Option Value} {s : Shared} {Q E : Value → Shared → Prop} {news : List (Addr × Obj)} {x dx : Addr} {ps : List Str}
    (B : Below A₀ base outer h₀) (F : Fr h₀ L s.heap m) (X : (Mine.hd.heap_39 w.params).In h₀) (N : News h₀ L s.heap news) (T : Top p loose mean mg mb h₀) (hk : cs.kind = .function) (S : AccIs news x dx ps) (hd : dp + 20 < recursionLimit) (hu : un + 150 < cLine)
    (hret : ∀ s' led' t, Fr h₀ L s'.heap m → News h₀ L s'.heap led' → Goes s s' → (∀ q ∈ news, q ∈ led') → Q (.int ps.length t) s') :
    wpAny (model prog w) (ktrTop dp un gd cn cs L a ccd cl outer) (call (.ref 210) [.ref x]) Q E s := by
  obtain ⟨n, hsh, tk, u, as, hx, hdx, hl, hp⟩ := S
  refine wpAny_call ?_
  k_dflt (refine' ks_code_super ?k1 ?k2 ?k3 ?k4 ?k5 ?kA ?kF ?kK ?k6 ?k7 ?k8 ?k9 ?kB ?_ ?c1 ?c2 ?c3 ?c4; (case kA => exact rfl); (case kF => exact rfl); (case kK => first | assumption | exact rfl); (case k1 => k_asm); (case k2 => k_asm); (case k3 => k_asm); (case k4 => k_asm); (case k5 => k_asm); (case k6 => k_is); (case k7 => k_is); (case k8 => ktr_room); (case k9 => first | exact BindsTo.of_eq rfl | exact binds_K (by k_in) rfl (by k_is) rfl rfl rfl | (refine' kp_binds ?kx ?ke; (case kx => k_in); (case ke => exact fun _ => rfl)) | fail "x_enter: no rule for these arguments"); (case kB => exact locs rfl); (case c1 => decide); (case c2 => exact rfl); (case c3 => exact rfl); (case c4 => exact rfl); k_whole; intro g' L' h' FG' F' N' B' X' T' l1; (try dsimp only); (try k_lift B'); (try k_fold))
  k_steps
  have e : (((as.map Value.ref).toArray.size : Nat) : Int) = (ps.length : Int) := by rw [List.size_toArray, List.length_map, hl]
  rw [e]
  exact hret _ _ _ (by k_asm) (by k_asm) (Goes.same _ _) fun q hq => .tail _ (.tail _ hq)
section
example : True := by
  k_with "wpAt" => refine Held.mk ?_
  trivial
set_option maxHeartbeats 4000000 in
theorem popC (hpr : PrOk prog) {dp un : Nat} {gd : Option (List Code)} {cn : Str} {cs : Scope} {a : Addr} {ccd : Value} {cl : List (Str × Addr)} {outer : List Env} {A₀ : Around} {base h₀ : Heap} {L : Addr} {m : Str → Option Value} {s : Shared} {Q E : Value → Shared → Prop} {news : List (Addr × Obj)} {x dx : Addr} {ps : List Str} {p' : Str}
    (B : Below A₀ base outer h₀) (F : Fr h₀ L s.heap m) (X : (Mine.hd.heap_39 w.params).In h₀) (N : News h₀ L s.heap news) (T : Top p loose mean mg mb h₀) (hk : cs.kind = .function) (S : AccIs news x dx (ps ++ [p'])) (hz : ps.length < 2 ^ 16) (hd : dp + 24 < recursionLimit) (hu : un + 180 < cLine)
    (hret : ∀ s' led' b t t', Fr h₀ L s'.heap m → News h₀ L s'.heap led' → Goes s s' → AccIs led' x dx ps → (b, tupO [.str Str.empty t, .str p' t']) ∈ led' → (∀ q ∈ news, q.1 ≠ x → q ∈ led') → Q (.ref b) s') :
    wpAny (model prog w) (ktrTop dp un gd cn cs L a ccd cl outer) (call (.ref 173) [.ref x]) Q E s := by
  have S0 := S
  obtain ⟨n, hsh, tk, u, as, hx, hdx, hl, hp⟩ := S
  refine wpAny_call ?_
  k_dflt (refine' ks_code_super ?k1 ?k2 ?k3 ?k4 ?k5 ?kA ?kF ?kK ?k6 ?k7 ?k8 ?k9 ?kB ?_ ?c1 ?c2 ?c3 ?c4; (case kA => exact rfl); (case kF => exact rfl); (case kK => first | assumption | exact rfl); (case k1 => k_asm); (case k2 => k_asm); (case k3 => k_asm); (case k4 => k_asm); (case k5 => k_asm); (case k6 => k_is); (case k7 => k_is); (case k8 => ktr_room); (case k9 => first | exact BindsTo.of_eq rfl | exact binds_K (by k_in) rfl (by k_is) rfl rfl rfl | (refine' kp_binds ?kx ?ke; (case kx => k_in); (case ke => exact fun _ => rfl)) | fail "x_enter: no rule for these arguments"); (case kB => exact locs rfl); (case c1 => decide); (case c2 => exact rfl); (case c3 => exact rfl); (case c4 => exact rfl); k_whole; intro g' L' h' FG' F' N' B' X' T' l1; (try dsimp only); (try k_lift B'); (try k_fold))
  refine ks_wpAt_execs_cons ?_
  refine wpAt_of_wpAny ?_
  k_steps
  refine Held.out ?_
  k_dflt (refine' partC hpr ?k1 ?k2 ?k3 ?k4 ?k5 ?kK S0 ?kd ?ku ?_; (case k1 => k_asm); (case k2 => k_asm); (case k3 => k_asm); (case k4 => k_asm); (case k5 => k_asm); (case kK => first | exact rfl | assumption); (case kd => ktr_room); (case ku => first | ktr_units | (show un + 1 + 150 < cLine; ktr_units) | (show un + 1 + 3 + 150 < cLine; ktr_units)))
  intro s5 led5 t5 F5 N5 G5 hk5
  have hne0 : ((ps ++ [p']).length : Int) ≠ 0 := by simp; omega
  k_steps
  refine Held.out ?_
  refine ks_wpAt_execs_cons ?_
  refine ks_wpAt_Return_some ?_
  refine ks_wpAt_MethodCall ?_
  k_here
  refine ks_node (by k_asm) (by k_asm) (by k_asm) (by k_asm) (by k_is) (by rfl) (by rfl) (acc_inst (by k_asm) (by k_asm) (hk5 _ hx) (hk5 _ hdx)) (by k_is) (by rfl) (PrOk.file (by assumption)) (by k_is) (by k_is) (by k_is) (by k_is) (by decide) (by rfl) (by rfl) (by rfl) (by rfl) (PrOk.sup (by assumption)) (by first | boot_by_name | rfl | kernel_rfl) ?_
  intro so6 h6 F6 N6 l6
  obtain ⟨as, b, rfl⟩ : ∃ as' b, as = as' ++ [b] := by
    rcases List.eq_nil_or_concat as with h | ⟨l, b, h⟩
    · rw [h, List.length_append] at hl; simp at hl
    · exact ⟨l, b, by rw [h, List.concat_eq_append]⟩
  have hl' : as.length = ps.length := by simpa using hl
  obtain ⟨t9, t9', hb9⟩ := hp as.length b p' (by simp) (by rw [hl']; simp)
  have hx6 : (x, accObj 213 dx (as.map Value.ref ++ [Value.ref b]).toArray n) ∈ led5 := by
    have := hk5 _ hx
    rwa [List.map_append] at this
  have hdx6 := hk5 _ hdx
  have hz6 : (as.map Value.ref).length < 2 ^ 19 := by rw [List.length_map]; omega
  k_steps
  rename_i q7 h7 F7 N7 l7
  k_here
  refine supc_pop (its := as.map Value.ref) (v := .ref b) F7 N7 (by k_asm) (.head _) (.tail _ (.tail _ hx6)) (.tail _ (.tail _ hdx6)) hz6 ?_
  intro h8 led8 n8 F8 N8 hm8 hk8 ha8
  k_steps
  have hkk : ∀ q ∈ news, q.1 ≠ x → q ∈ led8 := fun q hq hn => hk8 _ (.tail _ (.tail _ (hk5 _ hq))) hn
  refine hret _ led8 b t9 t9' (by k_asm) (by k_asm) (Goes.trans (Goes.same _ _) (Goes.trans G5 (Goes.same _ _))) ⟨n8, hsh, _, u, as, hm8, hkk _ hdx (acc_ne N hx hdx), hl', fun i b' q hb hq => ?_⟩ (hkk _ hb9 (tup_ne N hx hb9)) hkk
  have hi : i < as.length := (List.getElem?_eq_some_iff.mp hb).1
  obtain ⟨t, t', ht⟩ := hp i b' q (by rw [List.getElem?_append_left hi]; exact hb) (by rw [List.getElem?_append_left (hl' ▸ hi)]; exact hq)
  exact ⟨t, t', hkk _ ht (tup_ne N hx ht)⟩
end
end
end XAccM
section XAccN
set_option maxRecDepth 100000

example : True := by
  k_with_none
  trivial

example : True := by
  k_with "getMethod ref" => (k_here; k_dflt (refine' acc_methA ?wkF ?wkX ?wkN ?wkhx ?wkhdx ?_; (case wkF => k_asm); (case wkX => k_asm); (case wkN => k_asm); (case wkhx => k_mem); (case wkhdx => k_mem)))
  k_with "getMethod ref" => (k_here; k_dflt (refine' acc_meth ?wkF ?wkX ?wkN ?wkhx ?wkhdx ?wkhf ?wkht ?wkhn ?_; (case wkF => k_asm); (case wkX => k_asm); (case wkN => k_asm); (case wkhx => k_mem); (case wkhdx => k_mem); (case wkhf => k_is); (case wkht => k_is); (case wkhn => decide)))
  k_with "call builtin:list.append" => (k_here; k_dflt (refine' acc_app ?wkF ?wkX ?wkN ?wkhx ?wkhdx ?wkhz ?_; (case wkF => k_asm); (case wkX => k_asm); (case wkN => k_asm); (case wkhx => k_mem); (case wkhdx => k_mem); (case wkhz => omega)); intro _ _ _ _ _ _ _ _)
  k_with "call ref" => refine Held.mk ?_
  k_with "eval GeneratorExp" => refine Held.mk ?_
  trivial
theorem gen_later {prog : Program} {w : World} {A : Around} {Kb g : Addr} {n : Nat} {F : Nat → Value → Prop} {s : Shared} {tk : Nat} (X : Gen prog w A Kb g n F s) (h : s.toks ≤ tk) : Gen prog w A Kb g n F { s with toks := tk } := by
  obtain ⟨fp, wr, g', St, W, hst, hT, ha, hfp, hwr⟩ := X
  exact ⟨fp, wr, g', St, W, W.frame 0 s s.heap tk hst h fun _ _ _ e => e, hT, ha, hfp, hwr⟩
theorem range_map {α : Type} (ps : List Str) (g : Str → α) : (List.range ps.length).map (fun j => g (ps.getD j Str.empty)) = ps.map g := by
  apply List.ext_getElem?
  intro i
  by_cases h : i < ps.length
  · simp [h]
  · simp [h, Nat.le_of_not_lt h]
theorem sum_cast : ∀ (ps : List Str), (ps.map fun p => (p.length : Int)).sum = ((ps.map (·.length)).sum : Nat)
  | [] => rfl
  | p :: r => by
    rw [List.map_cons, List.sum_cons, sum_cast r, List.map_cons, List.sum_cons]
    omega
theorem sum_lens (ps : List Str) : preSum (fun j => ((ps.getD j Str.empty).length : Int)) ps.length = ((ps.map (·.length)).sum : Nat) := by
  rw [preSum_eq, range_map ps fun p => (p.length : Int), sum_cast]
section
variable {prog : Program} {w : World} {A : Around} {E : Value → Shared → Prop} {s : Shared} {x dx L : Addr} {h₀ : Heap} {m : Str → Option Value} {news : List (Addr × Obj)} {n : Nat} {its : Array Value} {hsh : Int} {tk u : Tok}
theorem acc_size {expr : Bool} {Q : Value → Shared → Prop} (F : Fr h₀ L s.heap m) (X : (Mine.hd.heap_39 w.params).In h₀) (N : News h₀ L s.heap news) (hx : (x, accObj 213 dx its n) ∈ news) (hdx : (dx, accD hsh tk u) ∈ news)
    (h : Q (.int 0 u) { s with toks := s.toks + 1 }) : wpAny (model prog w) A (getAttr (.ref x) (Str.ofString "_initial_size") expr) Q E s :=
  acc_getAttr (X.keeps F.keep) (accK _) (acc_inst F N hx hdx) (by kernel_rfl) (by kernel_rfl) (findObj_own (attr := none) (by kernel_rfl) (by kernel_rfl) (by kernel_rfl) (by rw [lookIn_dict]; rfl)) rfl h
end
example : True := by
  k_with "getAttr ref" => (k_here; k_dflt (refine' acc_size ?wkF ?wkX ?wkN ?wkhx ?wkhdx ?_; (case wkF => k_asm); (case wkX => k_asm); (case wkN => k_asm); (case wkhx => k_mem); (case wkhdx => k_mem)))
  trivial
theorem mg_empty {h : Heap} {P : Params} {mg : Str → Option Value} (X : (Mine.hd.heap_39 P).In h) (g : h.Ns mainGlobals mg) : mg (Str.ofString "EMPTYSTRING") = some (.str Str.empty 322) := mg_of X g (by kernel_rfl)
theorem sum_le : ∀ (ps : List Str) {k : Nat}, (∀ p ∈ ps, p.length ≤ k) → (ps.map (·.length)).sum ≤ ps.length * k
  | [], k, _ => Nat.zero_le _
  | p :: r, k, h => by
    rw [List.map_cons, List.sum_cons, List.length_cons, Nat.succ_mul]
    have := sum_le r fun q hq => h q (.tail _ hq)
    have := h p (.head _)
    omega
noncomputable abbrev LenTab (led : List (Addr × Obj)) : Prop := GTab 175 ⟨121, 19, 121, 63⟩ led
noncomputable abbrev StrTab (led : List (Addr × Obj)) : Prop := GTab 182 ⟨124, 32, 124, 85⟩ led
noncomputable abbrev lenS (ps : List Str) : Nat := (ps.map (·.length)).sum
section
variable {prog : Program} {w : World} {p : Program} {loose : List Str} {mean : ExcName → Option Value} {mg mb : Str → Option Value}
set_option maxHeartbeats 4000000 in
theorem lenC {dp un : Nat} {gd : Option (List Code)} {cn : Str} {cs : Scope} {a : Addr} {ccd : Value} {cl : List (Str × Addr)} {outer : List Env} {A₀ : Around} {base h₀ : Heap} {L : Addr} {m : Str → Option Value} {s : Shared} {Q E : Value → Shared → Prop} {news : List (Addr × Obj)} {x dx : Addr} {ps : List Str}
    (B : Below A₀ base outer h₀) (F : Fr h₀ L s.heap m) (X : (Mine.hd.heap_39 w.params).In h₀) (N : News h₀ L s.heap news) (T : Top p loose mean mg mb h₀) (hk : cs.kind = .function) (S : AccIs news x dx ps) (G : AllBare s.gens) (ht : LenTab news) (hz : ps.length < 2 ^ 10) (hz2 : ∀ p ∈ ps, p.length < 2 ^ 10) (hd : dp + 20 < recursionLimit) (hu : un + 150 < cLine)
    (hret : ∀ s' led' t, Fr h₀ L s'.heap m → News h₀ L s'.heap led' → Goes s s' → LenTab led' → (∀ q ∈ news, q.1 ≠ 175 → q ∈ led') → Q (.int (lenS ps : Nat) t) s') :
    wpAny (model prog w) (ktrTop dp un gd cn cs L a ccd cl outer) (call (.ref 180) [.ref x]) Q E s := by
  have S0 := S
  obtain ⟨n, hsh, tk, u, as, hx, hdx, hl, hp⟩ := S
  refine wpAny_call ?_
  k_dflt (refine' code_def ?k1 ?k2 ?k3 ?k4 ?k5 ?kA ?kF ?kK ?k6 ?k7 ?k8 ?k9 ?kB ?_ ?c2 ?c3 ?c4 ?c5; (case kA => exact rfl); (case kF => exact rfl); (case kK => first | assumption | exact rfl); (case k1 => k_asm); (case k2 => k_asm); (case k3 => k_asm); (case k4 => k_asm); (case k5 => k_asm); (case k6 => k_is); (case k7 => k_is); (case k8 => ktr_room); (case k9 => first | exact BindsTo.of_eq rfl | exact binds_K (by k_in) rfl (by k_is) rfl rfl rfl | (refine' kp_binds ?kx ?ke; (case kx => k_in); (case ke => exact fun _ => rfl)) | fail "x_enter: no rule for these arguments"); (case c5 => decide); (case kB => exact locs rfl); (case c2 => exact rfl); (case c3 => exact rfl); (case c4 => exact rfl); k_whole; intro g' L' h' FG' F' N' B' X' T'; (try dsimp only); (try k_lift B'); (try k_fold))
  k_steps
  refine Held.out ?_
  k_here
  refine genT (as := as) (ps := ps) (c := 179) (P := 175) (x := x) (dx := dx) (C := 213) (n := n) (Fv := fun q y => ∃ t, y = .int q.length t) F' X' N' T' G (codeHd_of_K X' (by kernel_rfl)) rfl rfl ht (accK _) (by kernel_rfl) hx hdx (AccIs.pairs N' hl hp) rfl rfl rfl (by ktr_room) rfl rfl (by decide) rfl rfl rfl (by decide) rfl (fun _ => rfl) ?_ ?_
  · intro D code A' E' q t t' u9 mu hA hq hn h1 h2 hkeep
    exact eltLen (mg := mg) (mb := mb) rfl rfl rfl rfl (T'.g.keeps hkeep) (mg_none_of X' T'.g (by kernel_rfl)) (T'.b.keeps hkeep) ((T'.builtins _ (by decide +kernel)).trans (by first | boot_by_name | rfl | kernel_rfl)) hn h1 h2 (by have := hz2 q hq; omega) (by decide) (by decide) rfl rfl
  intro g5 s5 led5 F5 N5 ht5 hk5 ha5 G5 hos5 X5 hL5 hA5
  have hx5 := hk5 _ hx (by
    show x ≠ 175
    rintro rfl
    rcases ht with ht | ⟨c', ht⟩ <;> (have := news_same N hx ht; cases this))
  have hdx5 := hk5 _ hdx (by
    show dx ≠ 175
    rintro rfl
    rcases ht with ht | ⟨c', ht⟩ <;> (have := news_same N hdx ht; cases this))
  k_steps
  refine sum_gen0 (s := { s5 with toks := s5.toks + 1 }) F5 G5 (gen_later X5 (Nat.le_succ _)) hL5 (fun j => ((ps.getD j Str.empty).length : Int)) ?_ ?_
  · rintro j v ⟨q, hq, t, rfl⟩
    exact ⟨t, by rw [List.getD_eq_getElem?_getD, hq]; rfl⟩
  intro s7 t7 F7 G7 hos7 hk7
  rw [sum_lens]
  have N7 : News g' L' s7.heap led5 := fun p hp => ⟨hk7 _ _ (hA5 p hp) (N5 p hp).1, (N5 p hp).2⟩
  k_steps
  refine hret _ led5 _ (by k_asm) (by k_asm) ⟨fun _ => G7, hos7.trans hos5⟩ ht5 hk5
set_option maxHeartbeats 4000000 in
theorem strC {dp un : Nat} {gd : Option (List Code)} {cn : Str} {cs : Scope} {a : Addr} {ccd : Value} {cl : List (Str × Addr)} {outer : List Env} {A₀ : Around} {base h₀ : Heap} {L : Addr} {m : Str → Option Value} {s : Shared} {Q E : Value → Shared → Prop} {news : List (Addr × Obj)} {x dx : Addr} {ps : List Str}
    (B : Below A₀ base outer h₀) (F : Fr h₀ L s.heap m) (X : (Mine.hd.heap_39 w.params).In h₀) (N : News h₀ L s.heap news) (T : Top p loose mean mg mb h₀) (hk : cs.kind = .function) (S : AccIs news x dx ps) (G : AllBare s.gens) (ht : StrTab news) (hz : ps.length < 2 ^ 9) (hz2 : ∀ p ∈ ps, p.length < 2 ^ 9) (hd : dp + 20 < recursionLimit) (hu : un + 150 < cLine)
    (hret : ∀ s' led' t, Fr h₀ L s'.heap m → News h₀ L s'.heap led' → Goes s s' → StrTab led' → (∀ q ∈ news, q.1 ≠ 182 → q ∈ led') → Q (.str (catS ps) t) s') :
    wpAny (model prog w) (ktrTop dp un gd cn cs L a ccd cl outer) (call (.ref 187) [.ref x]) Q E s := by
  have S0 := S
  obtain ⟨n, hsh, tk, u, as, hx, hdx, hl, hp⟩ := S
  refine wpAny_call ?_
  k_dflt (refine' code_def ?k1 ?k2 ?k3 ?k4 ?k5 ?kA ?kF ?kK ?k6 ?k7 ?k8 ?k9 ?kB ?_ ?c2 ?c3 ?c4 ?c5; (case kA => exact rfl); (case kF => exact rfl); (case kK => first | assumption | exact rfl); (case k1 => k_asm); (case k2 => k_asm); (case k3 => k_asm); (case k4 => k_asm); (case k5 => k_asm); (case k6 => k_is); (case k7 => k_is); (case k8 => ktr_room); (case k9 => first | exact BindsTo.of_eq rfl | exact binds_K (by k_in) rfl (by k_is) rfl rfl rfl | (refine' kp_binds ?kx ?ke; (case kx => k_in); (case ke => exact fun _ => rfl)) | fail "x_enter: no rule for these arguments"); (case c5 => decide); (case kB => exact locs rfl); (case c2 => exact rfl); (case c3 => exact rfl); (case c4 => exact rfl); k_whole; intro g' L' h' FG' F' N' B' X' T'; (try dsimp only); (try k_lift B'); (try k_fold))
  k_steps
  refine Held.out ?_
  k_here
  refine genT (as := as) (ps := ps) (c := 186) (P := 182) (x := x) (dx := dx) (C := 213) (n := n) (Fv := fun q y => ∃ t, y = .str q t) F' X' N' T' G (codeHd_of_K X' (by kernel_rfl)) rfl rfl ht (accK _) (by kernel_rfl) hx hdx (AccIs.pairs N' hl hp) rfl rfl rfl (by ktr_room) rfl rfl (by decide) rfl rfl rfl (by decide) rfl (fun _ => rfl) ?_ ?_
  · intro D code A' E' q t t' u9 mu hA hq hn h1 h2 hkeep
    exact eltJoin (mg := mg) rfl rfl rfl rfl (T'.g.keeps hkeep) (mg_empty X' T'.g) hn h1 h2 (by have := hz2 q hq; omega) (by decide) (by decide) rfl rfl rfl
  intro g5 s5 led5 F5 N5 ht5 hk5 ha5 G5 hos5 X5 hL5 hA5
  k_steps
  refine join_rowsK (sep := Str.ofString "") F5 G5 X5 hL5 (fun j => ps.getD j Str.empty) ?_ ?_ ?_ ?_
  · rintro j v ⟨q, hq, t, rfl⟩
    exact ⟨t, by rw [List.getD_eq_getElem?_getD, hq]; rfl⟩
  · rw [range_map ps fun q => q]
    refine joinOk_of ?_
    rw [List.map_id', show (Str.ofString "").length = 0 from rfl, Nat.mul_zero, Nat.add_zero]
    have := sum_le ps (k := 2 ^ 9) fun q hq => Nat.le_of_lt (hz2 q hq)
    omega
  · intro s7 t7 F7 G7 hos7 hk7
    rw [range_map ps fun q => q, List.map_id', show Str.ofString "" = Str.empty from rfl, join_cat]
    have N7 : News g' L' s7.heap led5 := fun p hp => ⟨hk7 _ _ (hA5 p hp) (N5 p hp).1, (N5 p hp).2⟩
    k_steps
    refine hret _ led5 _ (by k_asm) (by k_asm) ⟨fun _ => G7, hos7.trans hos5⟩ ht5 hk5
  · rw [sizeLine_eq]; omega
end
end XAccN
section XAccO
set_option maxRecDepth 100000

example : True := by
  k_with_none
  trivial

example : True := by
  k_with "getMethod ref" => (k_here; k_dflt (refine' acc_methA ?wkF ?wkX ?wkN ?wkhx ?wkhdx ?_; (case wkF => k_asm); (case wkX => k_asm); (case wkN => k_asm); (case wkhx => k_mem); (case wkhdx => k_mem)))
  k_with "getMethod ref" => (k_here; k_dflt (refine' acc_meth ?wkF ?wkX ?wkN ?wkhx ?wkhdx ?wkhf ?wkht ?wkhn ?_; (case wkF => k_asm); (case wkX => k_asm); (case wkN => k_asm); (case wkhx => k_mem); (case wkhdx => k_mem); (case wkhf => k_is); (case wkht => k_is); (case wkhn => decide)))
  k_with "call builtin:list.append" => (k_here; k_dflt (refine' acc_app ?wkF ?wkX ?wkN ?wkhx ?wkhdx ?wkhz ?_; (case wkF => k_asm); (case wkX => k_asm); (case wkN => k_asm); (case wkhx => k_mem); (case wkhdx => k_mem); (case wkhz => omega)); intro _ _ _ _ _ _ _ _)
  k_with "call ref" => refine Held.mk ?_
  k_with "getAttr ref" => (k_here; k_dflt (refine' acc_size ?wkF ?wkX ?wkN ?wkhx ?wkhdx ?_; (case wkF => k_asm); (case wkX => k_asm); (case wkN => k_asm); (case wkhx => k_mem); (case wkhdx => k_mem)))
  trivial
noncomputable def PairL (led : List (Addr × Obj)) (as : List Addr) (ps : List Str) : Prop := as.length = ps.length ∧ ∀ (i : Nat) b p, as[i]? = some b → ps[i]? = some p → ∃ t t', (b, tupO [.str Str.empty t, .str p t']) ∈ led
theorem PairL.take {led : List (Addr × Obj)} {as : List Addr} {ps : List Str} (h : PairL led as ps) (k : Nat) : PairL led (as.take k) (ps.take k) := by
  refine ⟨by rw [List.length_take, List.length_take, h.1], fun i b p hb hp => ?_⟩
  have hi : i < k := by
    have := (List.getElem?_eq_some_iff.mp hb).1
    rw [List.length_take] at this; omega
  rw [List.getElem?_take_of_lt hi] at hb hp
  exact h.2 i b p hb hp
theorem PairL.drop {led : List (Addr × Obj)} {as : List Addr} {ps : List Str} (h : PairL led as ps) (k : Nat) : PairL led (as.drop k) (ps.drop k) := by
  refine ⟨by rw [List.length_drop, List.length_drop, h.1], fun i b p hb hp => ?_⟩
  rw [List.getElem?_drop] at hb hp
  exact h.2 _ b p hb hp
theorem PairL.grow {led led' : List (Addr × Obj)} {as : List Addr} {ps : List Str} (h : PairL led as ps) (hk : ∀ (b : Addr) vs, (b, tupO vs) ∈ led → (b, tupO vs) ∈ led') : PairL led' as ps :=
  ⟨h.1, fun i b p hb hp => let ⟨t, t', ht⟩ := h.2 i b p hb hp; ⟨t, t', hk _ _ ht⟩⟩
theorem dct_ne {h₀ h : Heap} {L dx b : Addr} {led : List (Addr × Obj)} {hsh : Int} {tk u : Tok} {vs : List Value} (N : News h₀ L h led) (h1 : (dx, accD hsh tk u) ∈ led) (h2 : (b, tupO vs) ∈ led) : b ≠ dx := fun e => by
  subst e
  exact absurd (congrArg Obj.cls (news_same N h1 h2)) (show ¬ Value.type "dict" = Value.type "tuple" from fun h => absurd (Value.type.inj h) (by decide))
section
variable {prog : Program} {w : World} {A : Around} {E : Value → Shared → Prop} {s : Shared} {x dx L : Addr} {h₀ : Heap} {m : Str → Option Value} {news : List (Addr × Obj)} {n : Nat} {hsh : Int} {tk u : Tok}
theorem push_news {o : Obj} (N : News h₀ L s.heap news) : News h₀ L (s.heap.push o) news := fun p hp => ⟨Heap.get?_push_of_some _ (N p hp).1, (N p hp).2⟩
theorem acc_cutFrom {its : List Value} {nm : Str} {p1 p2 : Pos} {e : Expr} {i : Nat} {ti : Tok} {Q : Value → Shared → Prop} (F : Fr h₀ L s.heap m) (X : (Mine.hd.heap_39 w.params).In h₀) (N : News h₀ L s.heap news) (hx : (x, accObj 213 dx its.toArray n) ∈ news) (hdx : (dx, accD hsh tk u) ∈ news) (hi : i ≤ its.length) (hz : its.length < 2 ^ 18)
    (h : ∀ D h', Fr h₀ L h' m → News h₀ L h' ((D, listOf (its.drop i).toArray 0) :: news) → (∀ p ∈ news, p.1 < D) → Q (.ref D) { s with heap := h' }) :
    wpAny (model prog w) A (subscriptTail (.Name nm p1) (.Slice (some e) none none p2) (.ref x) (.ref s.heap.objs.size)) Q E { s with heap := s.heap.push { cls := .type "slice", data := .fields #[.int i ti, .none, .none] } } := by
  have F1 := F.push { cls := .type "slice", data := .fields #[.int i ti, .none, .none] }
  have N1 := push_news (o := { cls := .type "slice", data := .fields #[.int i ti, .none, .none] }) N
  have X1 := X.keeps F1.keep
  have I := acc_inst (s := { s with heap := s.heap.push _ }) F1 N1 hx hdx
  refine acc_tail (s := { s with heap := s.heap.push { cls := .type "slice", data := .fields #[.int i ti, .none, .none] } }) X1 I (by kernel_rfl) ?_ ⟨_, rfl⟩
  refine acc_getItem (s := { s with heap := s.heap.push { cls := .type "slice", data := .fields #[.int i ti, .none, .none] } }) X1 (accK _) I (by kernel_rfl) ?_
  refine acc_slice (s := { s with heap := s.heap.push { cls := .type "slice", data := .fields #[.int i ti, .none, .none] } }) F1 X N1 (accK _) hx hdx (Heap.IsSliceOf.new ..) (.int _ _) .none .none (by simp) (by rw [sizeLine_eq, List.size_toArray]; omega) ?_
  rw [slicePick_from _ _ (by rw [List.size_toArray]; exact hi)]
  refine wpAny_pure ?_
  refine h _ _ (F1.push _) ?_ (fun p hp => Heap.lt_size (N1 p hp).1)
  have := News.push F1 N1 (listOf (its.drop i).toArray 0)
  exact this
theorem acc_putFrom {its vs : List Value} {i nl : Nat} {ti : Tok} {l : Addr} {Q : Unit → Shared → Prop} (F : Fr h₀ L s.heap m) (X : (Mine.hd.heap_39 w.params).In h₀) (N : News h₀ L s.heap news) (hx : (x, accObj 213 dx its.toArray n) ∈ news) (hdx : (dx, accD hsh tk u) ∈ news) (hl : (l, listOf vs.toArray nl) ∈ news) (hi : i ≤ its.length) (hz : its.length < 2 ^ 17) (hz2 : vs.length < 2 ^ 17)
    (h : ∀ h' led' n', Fr h₀ L h' m → News h₀ L h' led' → (x, accObj 213 dx (its.take i ++ vs).toArray n') ∈ led' → (∀ p ∈ news, p.1 ≠ x → p ∈ led') → Q () { s with heap := h' }) :
    wpAny (model prog w) A (setItem (.ref x) (.ref s.heap.objs.size) (.ref l)) Q E { s with heap := s.heap.push { cls := .type "slice", data := .fields #[.int i ti, .none, .none] } } := by
  have F1 := F.push { cls := .type "slice", data := .fields #[.int i ti, .none, .none] }
  have N1 := push_news (o := { cls := .type "slice", data := .fields #[.int i ti, .none, .none] }) N
  have X1 := X.keeps F1.keep
  have I := acc_inst (s := { s with heap := s.heap.push _ }) F1 N1 hx hdx
  have hlx : l ≠ x := fun e => by subst e; have := news_same N hl hx; cases this
  refine acc_setItem (s := { s with heap := s.heap.push { cls := .type "slice", data := .fields #[.int i ti, .none, .none] } }) X1 (accK _) I (by kernel_rfl) ?_
  refine acc_setslice (s := { s with heap := s.heap.push { cls := .type "slice", data := .fields #[.int i ti, .none, .none] } }) F1 X N1 (accK _) hx hdx (Heap.IsSliceOf.new ..) (.int _ _) .none (News.isList N1 hl) hlx (by rw [List.size_toArray]; omega) (by rw [List.size_toArray]; omega) ?_
  intro h' led' n' F' N' hm hk ha
  rw [List.size_toArray, bounds_from hi] at hm
  refine h h' led' n' F' N' ?_ hk
  have e : (its.toArray.extract 0 ((i : Int)).toNat ++ vs.toArray ++ its.toArray.extract (max (i : Int) (its.length : Int)).toNat its.length) = (its.take i ++ vs).toArray := by
    apply Array.toList_inj.mp
    have e1 : (max (i : Int) (its.length : Int)).toNat = its.length := by omega
    rw [e1]
    simp
  rw [← e]
  exact hm
theorem acc_putAll {its vs : List Value} {nl : Nat} {l : Addr} {Q : Unit → Shared → Prop} (F : Fr h₀ L s.heap m) (X : (Mine.hd.heap_39 w.params).In h₀) (N : News h₀ L s.heap news) (hx : (x, accObj 213 dx its.toArray n) ∈ news) (hdx : (dx, accD hsh tk u) ∈ news) (hl : (l, listOf vs.toArray nl) ∈ news) (hz : its.length < 2 ^ 17) (hz2 : vs.length < 2 ^ 17)
    (h : ∀ h' led' n', Fr h₀ L h' m → News h₀ L h' led' → (x, accObj 213 dx vs.toArray n') ∈ led' → (∀ p ∈ news, p.1 ≠ x → p ∈ led') → Q () { s with heap := h' }) :
    wpAny (model prog w) A (setItem (.ref x) (.ref s.heap.objs.size) (.ref l)) Q E { s with heap := s.heap.push { cls := .type "slice", data := .fields #[.none, .none, .none] } } := by
  have F1 := F.push { cls := .type "slice", data := .fields #[.none, .none, .none] }
  have N1 := push_news (o := { cls := .type "slice", data := .fields #[.none, .none, .none] }) N
  have X1 := X.keeps F1.keep
  have I := acc_inst (s := { s with heap := s.heap.push _ }) F1 N1 hx hdx
  have hlx : l ≠ x := fun e => by subst e; have := news_same N hl hx; cases this
  refine acc_setItem (s := { s with heap := s.heap.push { cls := .type "slice", data := .fields #[.none, .none, .none] } }) X1 (accK _) I (by kernel_rfl) ?_
  refine acc_setslice (s := { s with heap := s.heap.push { cls := .type "slice", data := .fields #[.none, .none, .none] } }) F1 X N1 (accK _) hx hdx (Heap.IsSliceOf.new ..) .none .none (News.isList N1 hl) hlx (by rw [List.size_toArray]; omega) (by rw [List.size_toArray]; omega) ?_
  intro h' led' n' F' N' hm hk ha
  rw [List.size_toArray, bounds_all] at hm
  refine h h' led' n' F' N' ?_ hk
  have e : (its.toArray.extract 0 ((0 : Int)).toNat ++ vs.toArray ++ its.toArray.extract (max (0 : Int) (its.length : Int)).toNat its.length) = vs.toArray := by
    apply Array.toList_inj.mp
    have e1 : (max (0 : Int) (its.length : Int)).toNat = its.length := by omega
    rw [e1]
    simp
  rw [← e]
  exact hm
theorem acc_setSize {its : Array Value} {v : Tok} {Q : Unit → Shared → Prop} (F : Fr h₀ L s.heap m) (X : (Mine.hd.heap_39 w.params).In h₀) (N : News h₀ L s.heap news) (hx : (x, accObj 213 dx its n) ∈ news) (hdx : (dx, accD hsh tk u) ∈ news)
    (h : ∀ h' led', Fr h₀ L h' m → News h₀ L h' led' → (dx, accD hsh tk v) ∈ led' → (∀ p ∈ news, p.1 ≠ dx → p ∈ led') → Q () { s with heap := h', toks := s.toks + 2 }) :
    wpAny (model prog w) A (setAttr (.ref x) (Str.ofString "_initial_size") (.int 0 v)) Q E s := by
  refine acc_setAttr F X N (accK _) hx hdx (by kernel_rfl) (by kernel_rfl) rfl (by rw [List.length_singleton]; decide) fun h' led' tk' hsh' F' N' hm hk ha => h h' led' F' N' ?_ hk
  exact hm
theorem acc_setSize0 {its : Array Value} {v : Tok} {Q : Unit → Shared → Prop} (F : Fr h₀ L s.heap m) (X : (Mine.hd.heap_39 w.params).In h₀) (N : News h₀ L s.heap news) (hx : (x, accObj 213 dx its n) ∈ news) (hdx : (dx, emptyDict) ∈ news)
    (h : ∀ h' led' hsh tk, Fr h₀ L h' m → News h₀ L h' led' → (dx, accD hsh tk v) ∈ led' → (∀ p ∈ news, p.1 ≠ dx → p ∈ led') → Q () { s with heap := h', toks := s.toks + 2 }) :
    wpAny (model prog w) A (setAttr (.ref x) (Str.ofString "_initial_size") (.int 0 v)) Q E s := by
  refine acc_setAttr (es := []) (k := 0) F X N (accK _) hx hdx (by kernel_rfl) (by kernel_rfl) rfl (by decide) fun h' led' tk' hsh' F' N' hm hk ha => h h' led' hsh' tk' F' N' ?_ hk
  exact hm
end
section
variable {prog : Program} {w : World} {p : Program} {loose : List Str} {mean : ExcName → Option Value} {mg mb : Str → Option Value}
set_option maxHeartbeats 4000000 in
theorem popFromC {dp un : Nat} {gd : Option (List Code)} {cn : Str} {cs : Scope} {a : Addr} {ccd : Value} {cl : List (Str × Addr)} {outer : List Env} {A₀ : Around} {base h₀ : Heap} {L : Addr} {m : Str → Option Value} {s : Shared} {Q E : Value → Shared → Prop} {news : List (Addr × Obj)} {x dx : Addr} {ps : List Str} {i : Nat} {ti : Tok}
    (B : Below A₀ base outer h₀) (F : Fr h₀ L s.heap m) (X : (Mine.hd.heap_39 w.params).In h₀) (N : News h₀ L s.heap news) (T : Top p loose mean mg mb h₀) (hk : cs.kind = .function) (S : AccIs news x dx ps) (hi : i ≤ ps.length) (hz : ps.length < 2 ^ 10) (hd : dp + 20 < recursionLimit) (hu : un + 150 < cLine)
    (hret : ∀ s' led' D bs nD, Fr h₀ L s'.heap m → News h₀ L s'.heap led' → Goes s s' → AccIs led' x dx (ps.take i) → (D, listOf (bs.map Value.ref).toArray nD) ∈ led' → PairL led' bs (ps.drop i) → (∀ q ∈ news, q.1 ≠ x → q ∈ led') → (∀ q ∈ news, q.1 < D) → Q (.ref D) s') :
    wpAny (model prog w) (ktrTop dp un gd cn cs L a ccd cl outer) (call (.ref 165) [.ref x, .int i ti]) Q E s := by
  have S0 := S
  obtain ⟨n, hsh, tk, u, as, hx, hdx, hl, hp⟩ := S
  refine wpAny_call ?_
  k_dflt (refine' code_def ?k1 ?k2 ?k3 ?k4 ?k5 ?kA ?kF ?kK ?k6 ?k7 ?k8 ?k9 ?kB ?_ ?c2 ?c3 ?c4 ?c5; (case kA => exact rfl); (case kF => exact rfl); (case kK => first | assumption | exact rfl); (case k1 => k_asm); (case k2 => k_asm); (case k3 => k_asm); (case k4 => k_asm); (case k5 => k_asm); (case k6 => k_is); (case k7 => k_is); (case k8 => ktr_room); (case k9 => first | exact BindsTo.of_eq rfl | exact binds_K (by k_in) rfl (by k_is) rfl rfl rfl | (refine' kp_binds ?kx ?ke; (case kx => k_in); (case ke => exact fun _ => rfl)) | fail "x_enter: no rule for these arguments"); (case c5 => decide); (case kB => exact locs rfl); (case c2 => exact rfl); (case c3 => exact rfl); (case c4 => exact rfl); k_whole; intro g' L' h' FG' F' N' B' X' T'; (try dsimp only); (try k_lift B'); (try k_fold))
  k_steps
  k_here
  have hla : (as.map Value.ref).length = ps.length := by rw [List.length_map, hl]
  refine acc_cutFrom (its := as.map Value.ref) (i := i) F' X' N' hx hdx (by omega) (by omega) ?_
  intro D h5 F5 N5 l5
  k_steps
  rename_i l6 h6 F6 N6 l6b
  k_here
  refine acc_putFrom (its := as.map Value.ref) (vs := []) (i := i) F6 (by k_asm) N6 (.tail _ (.tail _ hx)) (.tail _ (.tail _ hdx)) (.head _) (by omega) (by omega) (by decide) ?_
  intro h7 led7 n7 F7 N7 hm7 hk7
  k_steps
  have hkk : ∀ q ∈ news, q.1 ≠ x → q ∈ led7 := fun q hq hn => hk7 _ (.tail _ (.tail _ hq)) hn
  have hpl : PairL led7 as ps := ⟨hl, fun i b p hb hq => let ⟨t, t', ht⟩ := hp i b p hb hq; ⟨t, t', hkk _ ht (tup_ne N hx ht)⟩⟩
  have hpt := hpl.take i
  refine hret _ led7 D (as.drop i) 0 (by k_asm) (by k_asm) (Goes.same _ _) ⟨n7, hsh, _, u, as.take i, ?_, hkk _ hdx (acc_ne N hx hdx), hpt.1, hpt.2⟩ ?_ (hpl.drop i) hkk l5
  · rw [List.append_nil, ← List.map_take] at hm7
    exact hm7
  · rw [List.map_drop]
    exact hk7 _ (.tail _ (.head _)) (Nat.ne_of_gt (l5 _ hx))
set_option maxHeartbeats 4000000 in
theorem resetC {dp un : Nat} {gd : Option (List Code)} {cn : Str} {cs : Scope} {a : Addr} {ccd : Value} {cl : List (Str × Addr)} {outer : List Env} {A₀ : Around} {base h₀ : Heap} {L : Addr} {m : Str → Option Value} {s : Shared} {Q E : Value → Shared → Prop} {news : List (Addr × Obj)} {x dx l : Addr} {ps qs : List Str} {bs : List Addr} {nl : Nat}
    (B : Below A₀ base outer h₀) (F : Fr h₀ L s.heap m) (X : (Mine.hd.heap_39 w.params).In h₀) (N : News h₀ L s.heap news) (T : Top p loose mean mg mb h₀) (hk : cs.kind = .function) (S : AccIs news x dx ps) (hl : (l, listOf (bs.map Value.ref).toArray nl) ∈ news) (hpq : PairL news bs qs) (hz : ps.length < 2 ^ 10) (hz2 : qs.length < 2 ^ 10) (hd : dp + 20 < recursionLimit) (hu : un + 150 < cLine)
    (hret : ∀ s' led', Fr h₀ L s'.heap m → News h₀ L s'.heap led' → Goes s s' → AccIs led' x dx qs → (∀ q ∈ news, q.1 ≠ x → q.1 ≠ dx → q ∈ led') → Q .none s') :
    wpAny (model prog w) (ktrTop dp un gd cn cs L a ccd cl outer) (call (.ref 195) [.ref x, .ref l]) Q E s := by
  have S0 := S
  obtain ⟨n, hsh, tk, u, as, hx, hdx, hal, hp⟩ := S
  refine wpAny_call ?_
  k_dflt (refine' code_def ?k1 ?k2 ?k3 ?k4 ?k5 ?kA ?kF ?kK ?k6 ?k7 ?k8 ?k9 ?kB ?_ ?c2 ?c3 ?c4 ?c5; (case kA => exact rfl); (case kF => exact rfl); (case kK => first | assumption | exact rfl); (case k1 => k_asm); (case k2 => k_asm); (case k3 => k_asm); (case k4 => k_asm); (case k5 => k_asm); (case k6 => k_is); (case k7 => k_is); (case k8 => ktr_room); (case k9 => first | exact BindsTo.of_eq rfl | exact binds_K (by k_in) rfl (by k_is) rfl rfl rfl | (refine' kp_binds ?kx ?ke; (case kx => k_in); (case ke => exact fun _ => rfl)) | fail "x_enter: no rule for these arguments"); (case c5 => decide); (case kB => exact locs rfl); (case c2 => exact rfl); (case c3 => exact rfl); (case c4 => exact rfl); k_whole; intro g' L' h' FG' F' N' B' X' T'; (try dsimp only); (try k_lift B'); (try k_fold))
  k_steps
  k_here
  have hla : (as.map Value.ref).length = ps.length := by rw [List.length_map, hal]
  refine acc_putAll (its := as.map Value.ref) (vs := bs.map Value.ref) F' X' N' hx hdx hl (by omega) (by rw [List.length_map, hpq.1]; omega) ?_
  intro h5 led5 n5 F5 N5 hm5 hk5
  have hdx5 := hk5 _ hdx (acc_ne N hx hdx)
  k_steps
  k_here
  refine acc_setSize F5 (by k_asm) N5 hm5 hdx5 ?_
  intro h7 led7 F7 N7 hm7 hk7
  k_steps
  have hkk : ∀ q ∈ news, q.1 ≠ x → q.1 ≠ dx → q ∈ led7 := fun q hq hn hn2 => hk7 _ (hk5 _ hq hn) hn2
  refine hret _ led7 (by k_asm) (by k_asm) (Goes.same _ _) ⟨n5, hsh, _, _, bs, hk7 _ hm5 (Ne.symm (acc_ne N hx hdx)), hm7, hpq.1, fun i b p hb hq => ?_⟩ hkk
  obtain ⟨t, t', ht⟩ := hpq.2 i b p hb hq
  exact ⟨t, t', hkk _ ht (tup_ne N hx ht) (dct_ne N hdx ht)⟩
set_option maxHeartbeats 4000000 in
theorem resetNC {dp un : Nat} {gd : Option (List Code)} {cn : Str} {cs : Scope} {a : Addr} {ccd : Value} {cl : List (Str × Addr)} {outer : List Env} {A₀ : Around} {base h₀ : Heap} {L : Addr} {m : Str → Option Value} {s : Shared} {Q E : Value → Shared → Prop} {news : List (Addr × Obj)} {x dx : Addr} {ps : List Str}
    (B : Below A₀ base outer h₀) (F : Fr h₀ L s.heap m) (X : (Mine.hd.heap_39 w.params).In h₀) (N : News h₀ L s.heap news) (T : Top p loose mean mg mb h₀) (hk : cs.kind = .function) (S : AccIs news x dx ps) (hz : ps.length < 2 ^ 10) (hd : dp + 20 < recursionLimit) (hu : un + 150 < cLine)
    (hret : ∀ s' led', Fr h₀ L s'.heap m → News h₀ L s'.heap led' → Goes s s' → AccIs led' x dx [] → (∀ q ∈ news, q.1 ≠ x → q.1 ≠ dx → q ∈ led') → Q .none s') :
    wpAny (model prog w) (ktrTop dp un gd cn cs L a ccd cl outer) (call (.ref 195) [.ref x]) Q E s := by
  have S0 := S
  obtain ⟨n, hsh, tk, u, as, hx, hdx, hal, hp⟩ := S
  refine wpAny_call ?_
  k_dflt (refine' code_def ?k1 ?k2 ?k3 ?k4 ?k5 ?kA ?kF ?kK ?k6 ?k7 ?k8 ?k9 ?kB ?_ ?c2 ?c3 ?c4 ?c5; (case kA => exact rfl); (case kF => exact rfl); (case kK => first | assumption | exact rfl); (case k1 => k_asm); (case k2 => k_asm); (case k3 => k_asm); (case k4 => k_asm); (case k5 => k_asm); (case k6 => k_is); (case k7 => k_is); (case k8 => ktr_room); (case k9 => first | exact BindsTo.of_eq rfl | exact binds_K (by k_in) rfl (by k_is) rfl rfl rfl | (refine' kp_binds ?kx ?ke; (case kx => k_in); (case ke => exact fun _ => rfl)) | fail "x_enter: no rule for these arguments"); (case c5 => decide); (case kB => exact locs rfl); (case c2 => exact rfl); (case c3 => exact rfl); (case c4 => exact rfl); k_whole; intro g' L' h' FG' F' N' B' X' T'; (try dsimp only); (try k_lift B'); (try k_fold))
  k_steps
  rename_i l4 _ l4b h4 F4 N4
  have hla : (as.map Value.ref).length = ps.length := by rw [List.length_map, hal]
  k_here
  refine acc_putAll (its := as.map Value.ref) (vs := []) F4 X' N4 (.tail _ hx) (.tail _ hdx) (.head _) (by omega) (by decide) ?_
  intro h5 led5 n5 F5 N5 hm5 hk5
  have hdx5 := hk5 _ (.tail _ hdx) (acc_ne N hx hdx)
  k_steps
  k_here
  refine acc_setSize F5 (by k_asm) N5 hm5 hdx5 ?_
  intro h7 led7 F7 N7 hm7 hk7
  k_steps
  have hkk : ∀ q ∈ news, q.1 ≠ x → q.1 ≠ dx → q ∈ led7 := fun q hq hn hn2 => hk7 _ (hk5 _ (.tail _ hq) hn) hn2
  exact hret _ led7 (by k_asm) (by k_asm) (Goes.same _ _) ⟨n5, hsh, _, _, [], hk7 _ hm5 (Ne.symm (acc_ne N hx hdx)), hm7, rfl, fun i b p hb hq => by simp at hb⟩ hkk
end
end XAccO
section XAccP
set_option maxRecDepth 100000

example : True := by
  k_with_none
  trivial

example : True := by
  k_with "getMethod ref" => (k_here; k_dflt (refine' acc_methA ?wkF ?wkX ?wkN ?wkhx ?wkhdx ?_; (case wkF => k_asm); (case wkX => k_asm); (case wkN => k_asm); (case wkhx => k_mem); (case wkhdx => k_mem)))
  k_with "getMethod ref" => (k_here; k_dflt (refine' acc_meth ?wkF ?wkX ?wkN ?wkhx ?wkhdx ?wkhf ?wkht ?wkhn ?_; (case wkF => k_asm); (case wkX => k_asm); (case wkN => k_asm); (case wkhx => k_mem); (case wkhdx => k_mem); (case wkhf => k_is); (case wkht => k_is); (case wkhn => decide)))
  k_with "call builtin:list.append" => (k_here; k_dflt (refine' acc_app ?wkF ?wkX ?wkN ?wkhx ?wkhdx ?wkhz ?_; (case wkF => k_asm); (case wkX => k_asm); (case wkN => k_asm); (case wkhx => k_mem); (case wkhdx => k_mem); (case wkhz => omega)); intro _ _ _ _ _ _ _ _)
  k_with "wpAt" => (ks_step "attributeBase Call"; k_here; k_dflt (refine ks_node (by k_asm) (by k_asm) (by k_asm) (by k_asm) (by k_is) (by rfl) (by rfl) (acc_inst (by k_asm) (by k_asm) (by k_mem) (by k_mem)) (by k_is) (by rfl) (PrOk.file (by assumption)) (by k_is) (by k_is) (by k_is) (by k_is) (by decide) (by rfl) (by rfl) (by rfl) (by rfl) (PrOk.sup (by assumption)) (by first | boot_by_name | rfl | kernel_rfl) ?_; intro _ _ _ _ _))
  k_with "getMethod ref" => (k_here; k_dflt (first | ((with_reducible show wpAny _ _ (getMethod (Value.ref _) (PySem.Str.ofString "__len__") _) _ _ _); refine' sup_len ?wkF ?wkX ?wkN ?wkhso ?wkhx ?wkhdx ?_; (case wkN => k_asm); (case wkhso => k_mem); (case wkF => k_asm); (case wkX => k_asm); (case wkhx => k_mem); (case wkhdx => k_mem)) | ((with_reducible show wpAny _ _ (getMethod (Value.ref _) (PySem.Str.ofString "pop") _) _ _ _); refine' sup_pop ?wkF ?wkX ?wkN ?wkhso ?wkhx ?wkhdx ?_; (case wkN => k_asm); (case wkhso => k_mem); (case wkF => k_asm); (case wkX => k_asm); (case wkhx => k_mem); (case wkhdx => k_mem)) | ((with_reducible show wpAny _ _ (getMethod (Value.ref _) (PySem.Str.ofString "__init__") _) _ _ _); refine' sup_init ?wkF ?wkX ?wkN ?wkhso ?wkhx ?wkhdx ?_; (case wkN => k_asm); (case wkhso => k_mem); (case wkF => k_asm); (case wkX => k_asm); (case wkhx => k_mem); (case wkhdx => k_mem))); intro _ _ _ _ _)
  k_with "callWith" => (k_here; k_dflt (first | (refine' supc_len ?wkF ?wkN ?wkhb ?wkhx ?wkhdx ?_; (case wkN => k_asm); (case wkhb => k_mem); (case wkF => k_asm); (case wkhx => k_mem); (case wkhdx => k_mem); intro _) | (refine' supc_init ?wkF ?wkN ?wkhb ?wkhx ?wkhdx ?_; (case wkN => k_asm); (case wkhb => k_mem); (case wkF => k_asm); (case wkhx => k_mem); (case wkhdx => k_mem); intro _ _ _ _ _ _ _ _)))
  k_with "call ref" => refine Held.mk ?_
  k_with "getAttr ref" => (k_here; k_dflt (refine' acc_size ?wkF ?wkX ?wkN ?wkhx ?wkhdx ?_; (case wkF => k_asm); (case wkX => k_asm); (case wkN => k_asm); (case wkhx => k_mem); (case wkhdx => k_mem)))
  k_with "truthy ref" => refine Held.mk ?_
  k_with "truthy" => refine Held.mk ?_
  k_with "call type:str" => refine Held.mk ?_
  trivial
theorem AccIs.tab {h₀ h : Heap} {L x dx P : Addr} {led led' : List (Addr × Obj)} {ps : List Str} {pos : Pos} (S : AccIs led x dx ps) (N : News h₀ L h led) (ht : GTab P pos led) (hk : ∀ q ∈ led, q.1 ≠ P → q ∈ led') : AccIs led' x dx ps := by
  obtain ⟨o, ho, hc⟩ : ∃ o : Obj, (P, o) ∈ led ∧ o.cls = .none := by rcases ht with ht | ⟨c', ht⟩ <;> exact ⟨_, ht, rfl⟩
  have S0 := S
  obtain ⟨n, hsh, tk, u, as, hx, hdx, hl, hp⟩ := S
  refine S0.other N ho ?_ ?_ (by rw [hc]; intro h; cases h) hk
  · rintro rfl
    rw [news_same N ho hx] at hc
    cases hc
  · rintro rfl
    rw [news_same N ho hdx] at hc
    cases hc
theorem GTab.keep {P P' : Addr} {pos : Pos} {led led' : List (Addr × Obj)} (ht : GTab P pos led) (hn : P ≠ P') (hk : ∀ q ∈ led, q.1 ≠ P' → q ∈ led') : GTab P pos led' := by
  rcases ht with ht | ⟨c', ht⟩
  · exact .inl (hk _ ht hn)
  · exact .inr ⟨c', hk _ ht hn⟩
section
variable {prog : Program} {w : World} {A : Around} {E : Value → Shared → Prop} {s : Shared} {x dx L : Addr} {h₀ : Heap} {m : Str → Option Value} {news : List (Addr × Obj)} {n : Nat} {its : Array Value} {hsh : Int} {tk u : Tok}
noncomputable def NumBack (k : Nat) (Q : Bool → Shared → Prop) (v : Value) (s' : Shared) : Prop := ∃ t, v = .int (k : Nat) t ∧ Q (decide (k ≠ 0)) { s' with toks := s'.toks + 1 }
theorem truthy_acc {k : Nat} {Q : Bool → Shared → Prop} (F : Fr h₀ L s.heap m) (X : (Mine.hd.heap_39 w.params).In h₀) (N : News h₀ L s.heap news) (hx : (x, accObj 213 dx its n) ∈ news) (hdx : (dx, accD hsh tk u) ∈ news) (hk : k < 2 ^ 62)
    (h : wpAny (model prog w) A.in1 (call (.ref 180) [.ref x]) (NumBack k Q) E s) : wpAny (model prog w) A (truthy (.ref x)) Q E s := by
  have X1 := X.keeps F.keep
  have I := acc_inst F N hx hdx
  have L1 : Looks (model prog w) s.heap (specialOf (.ref x) "__bool__") none := I.type.andThen (looks_findIn X1 (by kernel_rfl))
  have L2 : Looks (model prog w) s.heap (specialOf (.ref x) "__len__") (some (.ref 180)) := I.type.andThen (looks_findIn X1 (by kernel_rfl))
  unfold truthy
  refine wpAny_bind ?_
  unfold callSpecial?
  refine wpAny_bind (L1.here (wpAny_pure ?_))
  refine wpAny_bind (L2.here ?_)
  simp only [Option.isNone_some, Bool.false_eq_true, if_false]
  refine wpAny_bind (wpAny_runValue ?_)
  refine codeAny_builtin entry_len ?_
  rw [Around.under_plainId plain_len _]
  unfold Builtin.«len»
  refine wpAny_bind (m := oneArg "len" _) (wpAny_pure ?_)
  refine wpAny_bind (m := callSpecial? (.ref x) (Str.ofString "__len__")) (special_fn X1 I (by kernel_rfl) (by kernel_rfl) (wpAny_mono h (fun r s' hr => ?_) fun _ _ y => y))
  obtain ⟨t, rfl, hq⟩ := hr
  refine wpAny_bind (wpAny_holding (wpAny_pure ?_))
  refine wpAny_bind (wpAny_letGo ?_)
  rw [if_neg (by omega), if_neg (by omega)]
  refine wpAny_bind (wpAny_mkInt (wpAny_pure ?_))
  dsimp only
  have e : (((k : Nat) : Int) != 0) = decide (k ≠ 0) := by
    by_cases hz : k = 0
    · subst hz; rfl
    · have h1 : ((k : Nat) : Int) ≠ 0 := by omega
      rw [bne_iff_ne.mpr h1, decide_eq_true hz]
  refine wpAny_pure ?_
  rw [e]
  exact hq
end
section
variable {prog : Program} {w : World} {p : Program} {loose : List Str} {mean : ExcName → Option Value} {mg mb : Str → Option Value}
set_option maxHeartbeats 4000000 in
theorem onlywsC {dp un : Nat} {gd : Option (List Code)} {cn : Str} {cs : Scope} {a : Addr} {ccd : Value} {cl : List (Str × Addr)} {outer : List Env} {A₀ : Around} {base h₀ : Heap} {L : Addr} {m : Str → Option Value} {s : Shared} {Q E : Value → Shared → Prop} {news : List (Addr × Obj)} {x dx : Addr} {ps : List Str}
    (B : Below A₀ base outer h₀) (F : Fr h₀ L s.heap m) (X : (Mine.hd.heap_39 w.params).In h₀) (N : News h₀ L s.heap news) (T : Top p loose mean mg mb h₀) (hk : cs.kind = .function) (S : AccIs news x dx ps) (G : AllBare s.gens) (ht : LenTab news) (ht2 : StrTab news) (hz : ps.length < 2 ^ 9) (hz2 : ∀ p ∈ ps, p.length < 2 ^ 9) (hne : 0 < lenS ps) (hsp : Txt.isspace (catS ps) = false) (hd : dp + 24 < recursionLimit) (hu : un + 180 < cLine)
    (hret : ∀ s' led', Fr h₀ L s'.heap m → News h₀ L s'.heap led' → Goes s s' → LenTab led' → StrTab led' → (∀ q ∈ news, q.1 ≠ 175 → q.1 ≠ 182 → q ∈ led') → Q (.bool false) s') :
    wpAny (model prog w) (ktrTop dp un gd cn cs L a ccd cl outer) (call (.ref 202) [.ref x]) Q E s := by
  have S0 := S
  obtain ⟨n, hsh, tk, u, as, hx, hdx, hl, hp⟩ := S
  refine wpAny_call ?_
  k_dflt (refine' code_def ?k1 ?k2 ?k3 ?k4 ?k5 ?kA ?kF ?kK ?k6 ?k7 ?k8 ?k9 ?kB ?_ ?c2 ?c3 ?c4 ?c5; (case kA => exact rfl); (case kF => exact rfl); (case kK => first | assumption | exact rfl); (case k1 => k_asm); (case k2 => k_asm); (case k3 => k_asm); (case k4 => k_asm); (case k5 => k_asm); (case k6 => k_is); (case k7 => k_is); (case k8 => ktr_room); (case k9 => first | exact BindsTo.of_eq rfl | exact binds_K (by k_in) rfl (by k_is) rfl rfl rfl | (refine' kp_binds ?kx ?ke; (case kx => k_in); (case ke => exact fun _ => rfl)) | fail "x_enter: no rule for these arguments"); (case c5 => decide); (case kB => exact locs rfl); (case c2 => exact rfl); (case c3 => exact rfl); (case c4 => exact rfl); k_whole; intro g' L' h' FG' F' N' B' X' T'; (try dsimp only); (try k_lift B'); (try k_fold))
  k_steps
  refine Held.out ?_
  have hls : lenS ps < 2 ^ 62 := by
    have := sum_le ps (k := 2 ^ 9) fun q hq => Nat.le_of_lt (hz2 q hq)
    show (ps.map (·.length)).sum < _
    omega
  k_here
  refine truthy_acc (k := lenS ps) F' X' N' hx hdx hls ?_
  k_dflt (refine' lenC ?k1 ?k2 ?k3 ?k4 ?k5 ?kK S0 G ht (by omega) (fun p hp => by have := hz2 p hp; omega) ?kd ?ku ?_; (case k1 => k_asm); (case k2 => k_asm); (case k3 => k_asm); (case k4 => k_asm); (case k5 => k_asm); (case kK => first | exact rfl | assumption); (case kd => ktr_room); (case ku => first | ktr_units | (show un + 1 + 150 < cLine; ktr_units) | (show un + 1 + 3 + 150 < cLine; ktr_units)))
  intro s5 led5 t5 F5 N5 G5 ht5 hk5
  refine ⟨_, rfl, ?_⟩
  k_steps
  refine Held.out ?_
  have S5 := S0.tab N ht hk5
  have ht25 : StrTab led5 := ht2.keep (by decide) hk5
  have S5' := S5
  obtain ⟨n5, hsh5, tk5, u5, as5, hx5, hdx5, hl5, hp5⟩ := S5'
  k_here
  refine kso_call (f := 187) (by ktr_units) (X'.keeps F5.keep) (acc_inst F5 N5 hx5 hdx5) (by kernel_rfl) (by kernel_rfl) ?_
  k_dflt (refine' strC ?k1 ?k2 ?k3 ?k4 ?k5 ?kK S5 (G5.1 G) ht25 hz hz2 ?kd ?ku ?_; (case k1 => k_asm); (case k2 => k_asm); (case k3 => k_asm); (case k4 => k_asm); (case k5 => k_asm); (case kK => first | exact rfl | assumption); (case kd => ktr_room); (case ku => first | ktr_units | (show un + 1 + 150 < cLine; ktr_units) | (show un + 1 + 3 + 150 < cLine; ktr_units)))
  intro s6 led6 t6 F6 N6 G6 ht6 hk6
  dsimp only [StrBack]
  k_steps
  rw [hsp]
  exact hret s6 led6 (by k_asm) (by k_asm) (Goes.trans (Goes.same _ _) (Goes.trans G5 (Goes.trans (Goes.same _ _) G6))) (ht5.keep (by decide) hk6) ht6 fun q hq h1 h2 => hk6 _ (hk5 _ hq h1) h2
set_option maxHeartbeats 4000000 in
theorem accNew (hpr : PrOk prog) {dp un : Nat} {gd : Option (List Code)} {cn : Str} {cs : Scope} {a : Addr} {ccd : Value} {cl : List (Str × Addr)} {outer : List Env} {A₀ : Around} {base h₀ : Heap} {L : Addr} {m : Str → Option Value} {s : Shared} {Q E : Value → Shared → Prop} {news : List (Addr × Obj)} {tk : Tok}
    (B : Below A₀ base outer h₀) (F : Fr h₀ L s.heap m) (X : (Mine.hd.heap_39 w.params).In h₀) (N : News h₀ L s.heap news) (T : Top p loose mean mg mb h₀) (hk : cs.kind = .function) (hd : dp + 20 < recursionLimit) (hu : un + 150 < cLine)
    (hret : ∀ s' led' x dx, Fr h₀ L s'.heap m → News h₀ L s'.heap led' → Goes s s' → AccIs led' x dx [] → (∀ q ∈ news, q ∈ led') → (∀ q ∈ news, q.1 < dx) → dx < x → Q (.ref x) s') :
    wpAny (model prog w) (ktrTop dp un gd cn cs L a ccd cl outer) (call (.ref 213) [.int 0 tk]) Q E s := by
  refine wpAny_call ?_
  k_dflt (refine' make_L ?k1 ?k2 ?k3 ?k4 ?k5 ?k6 ?_; (case k1 => k_asm); (case k2 => k_asm); (case k3 => exact X.keeps F.keep); (case k4 => kernel_rfl); (case k5 => k_is); (case k6 => k_is))
  intro x dx h' F' N' lA l2
  k_dflt (refine' ks_code_super ?k1 ?k2 ?k3 ?k4 ?k5 ?kA ?kF ?kK ?k6 ?k7 ?k8 ?k9 ?kB ?_ ?c1 ?c2 ?c3 ?c4; (case kA => exact rfl); (case kF => exact rfl); (case kK => first | assumption | exact rfl); (case k1 => k_asm); (case k2 => k_asm); (case k3 => k_asm); (case k4 => k_asm); (case k5 => k_asm); (case k6 => k_is); (case k7 => k_is); (case k8 => ktr_room); (case k9 => first | exact BindsTo.of_eq rfl | exact binds_K (by k_in) rfl (by k_is) rfl rfl rfl | (refine' kp_binds ?kx ?ke; (case kx => k_in); (case ke => exact fun _ => rfl)) | fail "x_enter: no rule for these arguments"); (case kB => exact locs rfl); (case c1 => decide); (case c2 => exact rfl); (case c3 => exact rfl); (case c4 => exact rfl); k_whole; intro g' L' h' FG' F' N' B' X' T' l1; (try dsimp only); (try k_lift B'); (try k_fold))
  refine ks_wpAt_execs_cons ?_
  refine wpAt_of_wpAny ?_
  k_steps
  k_here
  refine acc_setSize0 F' (by k_asm) N' (.head _) (.tail _ (.head _)) ?_
  intro h5 led5 hsh tk5 F5 N5 hm5 hk5
  have hx5 : (x, accObj 213 dx #[] 0) ∈ led5 := hk5 _ (.head _) (Nat.ne_of_gt l2)
  dsimp only
  refine ks_wpAt_execs_cons ?_
  refine ks_wpAt_Expr_any ?_
  refine ks_wpAt_MethodCall ?_
  k_here
  refine ks_node (by k_asm) (by k_asm) (by k_asm) (by k_asm) (by k_is) (by rfl) (by rfl) (acc_inst (by k_asm) (by k_asm) hx5 hm5) (by k_is) (by rfl) (PrOk.file (by assumption)) (by k_is) (by k_is) (by k_is) (by k_is) (by decide) (by rfl) (by rfl) (by rfl) (by rfl) (PrOk.sup (by assumption)) (by first | boot_by_name | rfl | kernel_rfl) ?_
  intro so6 h6 F6 N6 l6
  k_steps
  rename_i q7 _ _ _ _ h9 led9 n9 _ _ hm9 hk9 _ _ _ _ _
  have hdx9 := hk9 _ (.tail _ (.tail _ hm5)) (Nat.ne_of_lt l2)
  refine hret _ led9 x dx (by k_asm) (by k_asm) (Goes.same _ _) ⟨n9, hsh, _, _, [], hm9, hdx9, rfl, fun i b p hb hq => by simp at hb⟩ (fun q hq => ?_) lA l2
  exact hk9 _ (.tail _ (.tail _ (hk5 _ (.tail _ (.tail _ hq)) (Nat.ne_of_lt (lA q hq))))) (Nat.ne_of_lt (Nat.lt_trans (lA q hq) l2))
set_option maxHeartbeats 4000000 in
theorem accNew0 (hpr : PrOk prog) {dp un : Nat} {gd : Option (List Code)} {cn : Str} {cs : Scope} {a : Addr} {ccd : Value} {cl : List (Str × Addr)} {outer : List Env} {A₀ : Around} {base h₀ : Heap} {L : Addr} {m : Str → Option Value} {s : Shared} {Q E : Value → Shared → Prop} {news : List (Addr × Obj)}
    (B : Below A₀ base outer h₀) (F : Fr h₀ L s.heap m) (X : (Mine.hd.heap_39 w.params).In h₀) (N : News h₀ L s.heap news) (T : Top p loose mean mg mb h₀) (hk : cs.kind = .function) (hd : dp + 20 < recursionLimit) (hu : un + 150 < cLine)
    (hret : ∀ s' led' x dx, Fr h₀ L s'.heap m → News h₀ L s'.heap led' → Goes s s' → AccIs led' x dx [] → (∀ q ∈ news, q ∈ led') → (∀ q ∈ news, q.1 < dx) → dx < x → Q (.ref x) s') :
    wpAny (model prog w) (ktrTop dp un gd cn cs L a ccd cl outer) (call (.ref 213) []) Q E s := by
  refine wpAny_call ?_
  k_dflt (refine' make_L ?k1 ?k2 ?k3 ?k4 ?k5 ?k6 ?_; (case k1 => k_asm); (case k2 => k_asm); (case k3 => exact X.keeps F.keep); (case k4 => kernel_rfl); (case k5 => k_is); (case k6 => k_is))
  intro x dx h' F' N' lA l2
  k_dflt (refine' ks_code_super ?k1 ?k2 ?k3 ?k4 ?k5 ?kA ?kF ?kK ?k6 ?k7 ?k8 ?k9 ?kB ?_ ?c1 ?c2 ?c3 ?c4; (case kA => exact rfl); (case kF => exact rfl); (case kK => first | assumption | exact rfl); (case k1 => k_asm); (case k2 => k_asm); (case k3 => k_asm); (case k4 => k_asm); (case k5 => k_asm); (case k6 => k_is); (case k7 => k_is); (case k8 => ktr_room); (case k9 => first | exact BindsTo.of_eq rfl | exact binds_K (by k_in) rfl (by k_is) rfl rfl rfl | (refine' kp_binds ?kx ?ke; (case kx => k_in); (case ke => exact fun _ => rfl)) | fail "x_enter: no rule for these arguments"); (case kB => exact locs rfl); (case c1 => decide); (case c2 => exact rfl); (case c3 => exact rfl); (case c4 => exact rfl); k_whole; intro g' L' h' FG' F' N' B' X' T' l1; (try dsimp only); (try k_lift B'); (try k_fold))
  refine ks_wpAt_execs_cons ?_
  refine wpAt_of_wpAny ?_
  k_steps
  k_here
  refine acc_setSize0 F' (by k_asm) N' (.head _) (.tail _ (.head _)) ?_
  intro h5 led5 hsh tk5 F5 N5 hm5 hk5
  have hx5 : (x, accObj 213 dx #[] 0) ∈ led5 := hk5 _ (.head _) (Nat.ne_of_gt l2)
  dsimp only
  refine ks_wpAt_execs_cons ?_
  refine ks_wpAt_Expr_any ?_
  refine ks_wpAt_MethodCall ?_
  k_here
  refine ks_node (by k_asm) (by k_asm) (by k_asm) (by k_asm) (by k_is) (by rfl) (by rfl) (acc_inst (by k_asm) (by k_asm) hx5 hm5) (by k_is) (by rfl) (PrOk.file (by assumption)) (by k_is) (by k_is) (by k_is) (by k_is) (by decide) (by rfl) (by rfl) (by rfl) (by rfl) (PrOk.sup (by assumption)) (by first | boot_by_name | rfl | kernel_rfl) ?_
  intro so6 h6 F6 N6 l6
  k_steps
  rename_i q7 _ _ _ _ h9 led9 n9 _ _ hm9 hk9 _ _ _ _ _
  have hdx9 := hk9 _ (.tail _ (.tail _ hm5)) (Nat.ne_of_lt l2)
  refine hret _ led9 x dx (by k_asm) (by k_asm) (Goes.same _ _) ⟨n9, hsh, _, _, [], hm9, hdx9, rfl, fun i b p hb hq => by simp at hb⟩ (fun q hq => ?_) lA l2
  exact hk9 _ (.tail _ (.tail _ (hk5 _ (.tail _ (.tail _ hq)) (Nat.ne_of_lt (lA q hq))))) (Nat.ne_of_lt (Nat.lt_trans (lA q hq) l2))
end
end XAccP
section XVf
set_option maxRecDepth 100000

example : True := by
  k_with_none
  trivial

example : True := by
  k_with "call ref" => refine Held.mk ?_
  trivial
section
variable {prog : Program} {w : World} {A : Around} {E : Value → Shared → Prop} {s : Shared} {K : Frag} {x C dx L : Addr} {h₀ : Heap} {m : Str → Option Value} {news : List (Addr × Obj)} {n : Nat} {es : List DictEntry} {name : Str} {v : Value}
theorem inst_ne {h : Heap} (N : News h₀ L h news) (hx : (x, instObj C dx) ∈ news) (hdx : (dx, dictOf es n) ∈ news) : x ≠ dx := fun e => by
  subst e
  exact absurd (congrArg Obj.cls (news_same N hx hdx)) (by intro h; cases h)
theorem setA_led {Q : Unit → Shared → Prop} (F : Fr h₀ L s.heap m) (X₀ : K.In h₀) (N : News h₀ L s.heap news) (hx : (x, instObj C dx) ∈ news) (hdx : (dx, dictOf es n) ∈ news)
    (hs : findIn K (.ref C) "__setattr__" = some (some (.builtin "object.__setattr__"))) (hp : plainOver K C = true) (ht : takerIn K C name = some none) (hh : hasDictIn K C = true) (hl : (getL name es).isSome = true) (hz : es.length ≤ 900)
    (h : ∀ h' led', Fr h₀ L h' m → News h₀ L h' led' → (dx, dictOf (putL name (PyData.keyHash w.params name) (.str name (s.toks + 1)) v es) (putN name es n)) ∈ led' → (x, instObj C dx) ∈ led' → (∀ p ∈ news, p.1 ≠ dx → p ∈ led') → (∀ p ∈ led', ∃ q ∈ news, q.1 = p.1) → Q () { s with heap := h', toks := s.toks + 2 }) :
    wpAny (model prog w) A (setAttr (.ref x) name v) Q E s :=
  set_dict F X₀ (news_turnTo N hdx) (InstAt.of_news N hx hdx) rfl hs hp ht hh hl rfl upd_turnTo (by have := putL_length name (PyData.keyHash w.params name) (.str name (s.toks + 1)) v es; omega) fun h' F' N' => h h' _ F' N' turnTo_new (turnTo_old hx (inst_ne N hx hdx)) (fun p hp hn => turnTo_old hp hn) (fun p hp => turnTo_addr hdx hp)
theorem put_new {hsh : Int} {k : Value} : ∀ {es : List DictEntry}, getL name es = some none → putL name hsh k v es = es ++ [⟨hsh, k, v⟩] ∧ putN name es n = n + 1 := by
  have key : ∀ es : List DictEntry, es.find? (·.key.isStr name) = none → putL name hsh k v es = es ++ [⟨hsh, k, v⟩] ∧ es.any (·.key.isStr name) = false := by
    intro es
    induction es with
    | nil => intro _; exact ⟨rfl, rfl⟩
    | cons e r ih =>
      intro hf
      rw [List.find?_cons] at hf
      cases he : e.key.isStr name with
      | true => rw [he] at hf; cases hf
      | false =>
        rw [he] at hf
        obtain ⟨i1, i2⟩ := ih hf
        refine ⟨?_, ?_⟩
        · unfold putL
          rw [he, if_neg (by decide), i1]; rfl
        · rw [List.any_cons, he, i2]; rfl
  intro es h
  unfold getL at h
  split at h
  · cases h
  · rename_i hf
    obtain ⟨k1, k2⟩ := key es hf
    refine ⟨k1, ?_⟩
    unfold putN
    rw [k2]; rfl
theorem setA_new {Q : Unit → Shared → Prop} (F : Fr h₀ L s.heap m) (X₀ : K.In h₀) (N : News h₀ L s.heap news) (hx : (x, instObj C dx) ∈ news) (hdx : (dx, dictOf es n) ∈ news)
    (hs : findIn K (.ref C) "__setattr__" = some (some (.builtin "object.__setattr__"))) (hp : plainOver K C = true) (ht : takerIn K C name = some none) (hh : hasDictIn K C = true) (hl : getL name es = some none) (hz : es.length ≤ 900)
    (h : ∀ h' led' hsh tk, Fr h₀ L h' m → News h₀ L h' led' → (dx, dictOf (es ++ [⟨hsh, .str name tk, v⟩]) (n + 1)) ∈ led' → (x, instObj C dx) ∈ led' → (∀ p ∈ news, p.1 ≠ dx → p ∈ led') → (∀ p ∈ led', ∃ q ∈ news, q.1 = p.1) → Q () { s with heap := h', toks := s.toks + 2 }) :
    wpAny (model prog w) A (setAttr (.ref x) name v) Q E s := by
  refine setA_led F X₀ N hx hdx hs hp ht hh (by rw [hl]; rfl) hz fun h' led' F' N' hm hI hk ha => ?_
  obtain ⟨e1, e2⟩ := put_new (n := n) (v := v) (hsh := PyData.keyHash w.params name) (k := .str name (s.toks + 1)) hl
  rw [e1, e2] at hm
  exact h h' led' _ _ F' N' hm hI hk ha
end
example : True := by
  k_with "setAttr ref" => (k_here; k_dflt (refine' setA_new ?wkF ?wkX ?wkN ?wkhx ?wkhdx ?wkhs ?wkhp ?wkht ?wkhh ?wkhl ?wkhz ?_; (case wkF => k_asm); (case wkX => k_asm); (case wkN => k_asm); (case wkhx => k_mem); (case wkhdx => k_mem); (case wkhs => k_is); (case wkhp => k_is); (case wkht => k_is); (case wkhh => k_is); (case wkhl => kernel_rfl); (case wkhz => simp)); intro _ _ _ _ _ _ _ _ _ _)
  trivial
structure MkT where
  (h1 h2 h3 h4 h5 h6 : Int)
  (t1 t2 t3 t4 t5 t6 u1 u2 u3 u4 : Tok)
noncomputable abbrev mkEs (q : MkT) (ls x : Addr) : List DictEntry := [⟨q.h1, .str (Str.ofString "_maxlen") q.t1, .int 0 q.u1⟩, ⟨q.h2, .str (Str.ofString "_continuation_ws") q.t2, .str (Str.ofString " ") q.u2⟩, ⟨q.h3, .str (Str.ofString "_continuation_ws_len") q.t3, .int 1 q.u3⟩,
  ⟨q.h4, .str (Str.ofString "_splitchars") q.t4, .str (Str.ofString ")") q.u4⟩, ⟨q.h5, .str (Str.ofString "_lines") q.t5, .ref ls⟩, ⟨q.h6, .str (Str.ofString "_current_line") q.t6, .ref x⟩]
noncomputable def MkAt (led : List (Addr × Obj)) (mk dm ls x dx : Addr) (lines ps : List Str) : Prop :=
  ∃ (q : MkT) (wl : List Value) (nl : Nat), (mk, instObj 129 dm) ∈ led ∧ (dm, dictOf (mkEs q ls x) 6) ∈ led ∧ (ls, listOf wl.toArray nl) ∈ led ∧ StrsAre wl lines ∧ AccIs led x dx ps
section
variable {prog : Program} {w : World} {p : Program} {loose : List Str} {mean : ExcName → Option Value} {mg mb : Str → Option Value}
set_option maxHeartbeats 8000000 in
theorem newM (hpr : PrOk prog) {dp un : Nat} {gd : Option (List Code)} {cn : Str} {cs : Scope} {a : Addr} {ccd : Value} {cl : List (Str × Addr)} {outer : List Env} {A₀ : Around} {base h₀ : Heap} {L : Addr} {m : Str → Option Value} {s : Shared} {Q E : Value → Shared → Prop} {news : List (Addr × Obj)} {t1 t2 t3 t4 : Tok}
    (B : Below A₀ base outer h₀) (F : Fr h₀ L s.heap m) (X : (Mine.hd.heap_39 w.params).In h₀) (N : News h₀ L s.heap news) (T : Top p loose mean mg mb h₀) (hk : cs.kind = .function) (hd : dp + 30 < recursionLimit) (hu : un + 250 < cLine)
    (hret : ∀ s' led' mk dm ls x dx, Fr h₀ L s'.heap m → News h₀ L s'.heap led' → Goes s s' → MkAt led' mk dm ls x dx [] [] → (∀ q ∈ news, q ∈ led') → (∀ q ∈ news, q.1 < dm) → dm < mk → dm < ls → dm < x → dm < dx → Q (.ref mk) s') :
    wpAny (model prog w) (ktrTop dp un gd cn cs L a ccd cl outer) (call (.ref 129) [.int 0 t1, .int 0 t2, .str (Str.ofString " ") t3, .str (Str.ofString ")") t4]) Q E s := by
  k_dflt (refine' call_cls ?k1 ?k2 ?k3 ?k4 ?k5 ?k6 ?_; (case k1 => k_asm); (case k2 => k_asm); (case k3 => k_asm); (case k4 => k_is); (case k5 => k_is); (case k6 => k_is))
  intro mk dm h1 F1 N1 lA l2
  k_dflt (refine' code_def ?k1 ?k2 ?k3 ?k4 ?k5 ?kA ?kF ?kK ?k6 ?k7 ?k8 ?k9 ?kB ?_ ?c2 ?c3 ?c4 ?c5; (case kA => exact rfl); (case kF => exact rfl); (case kK => first | assumption | exact rfl); (case k1 => k_asm); (case k2 => k_asm); (case k3 => k_asm); (case k4 => k_asm); (case k5 => k_asm); (case k6 => k_is); (case k7 => k_is); (case k8 => ktr_room); (case k9 => first | exact BindsTo.of_eq rfl | exact binds_K (by k_in) rfl (by k_is) rfl rfl rfl | (refine' kp_binds ?kx ?ke; (case kx => k_in); (case ke => exact fun _ => rfl)) | fail "x_enter: no rule for these arguments"); (case c5 => decide); (case kB => exact locs rfl); (case c2 => exact rfl); (case c3 => exact rfl); (case c4 => exact rfl); k_whole; intro g' L' h' FG' F' N' B' X' T'; (try dsimp only); (try k_lift B'); (try k_fold))
  k_steps
  rename_i _ _ _ _ _ _ hkA _ _ _ _ _ _ _ hkB _ _ _ _ _ _ _ hkC _ _ _ _ _ hmD _ hkD _ ls _ _ _ lls h9 led9 hsh9 tk9 F9 N9 hm9 hI9 hkE ha9
  refine Held.out ?_
  k_dflt (refine' accNew hpr ?k1 ?k2 ?k3 ?k4 ?k5 ?kK ?kd ?ku ?_; (case k1 => k_asm); (case k2 => k_asm); (case k3 => k_asm); (case k4 => k_asm); (case k5 => k_asm); (case kK => first | exact rfl | assumption); (case kd => ktr_room); (case ku => first | ktr_units | (show un + 1 + 150 < cLine; ktr_units) | (show un + 1 + 3 + 150 < cLine; ktr_units)))
  intro s5 led5 x dx F5 N5 G5 S5 hk5 ld5 l5
  have hm5 := hk5 _ hm9
  have hI5 := hk5 _ hI9
  have hdm : dm < mk := l2
  have hls : ls ≠ dm := Nat.ne_of_gt (lls _ hmD)
  k_steps
  rename_i led6 hsh6 tk6 _ _ hm6 hI6 hk6 _ _ _ _ _
  have hn6 : ∀ q ∈ news, q.1 ≠ dm := fun q hq => Nat.ne_of_lt (lA q hq)
  have hkk : ∀ q ∈ news, q ∈ led6 := fun q hq => hk6 _ (hk5 _ (hkE _ (.tail _ (hkD _ (hkC _ (hkB _ (hkA _ (.tail _ (.tail _ hq)) (hn6 q hq)) (hn6 q hq)) (hn6 q hq)) (hn6 q hq))) (hn6 q hq))) (hn6 q hq)
  have ldx : dm < dx := ld5 _ hm9
  refine hret _ led6 mk dm ls x dx (by k_asm) (by k_asm) (Goes.trans (Goes.same _ _) (Goes.trans G5 (Goes.same _ _))) ⟨⟨_, _, _, _, _, _, _, _, _, _, _, _, _, _, _, _⟩, [], 0, hI6, hm6, hk6 _ (hk5 _ (hkE _ (.head _) hls)) hls, .nil, ?_⟩ hkk lA l2 (lls _ hmD) (Nat.lt_trans ldx l5) ldx
  exact S5.other N5 hm5 (Nat.ne_of_lt (Nat.lt_trans (ld5 _ hm9) l5)) (Nat.ne_of_lt (ld5 _ hm9)) (fun h => absurd (Value.type.inj h) (by decide)) hk6
end
end XVf
section XGLoop
set_option maxRecDepth 100000

example : True := by
  k_with_none
  trivial

section
variable {prog : Program} {w : World} {A : Around} {E : Value → Shared → Prop} {s : Shared} {env : Env} {h₀ : Heap} {target : Expr} {body orelse : List Stmt} {Q : Flow → Shared → Prop}
noncomputable def GEnd (h₀ : Heap) (L I : Addr) (ito : Obj) (Jn : (Str → Option Value) → List (Addr × Obj) → Prop) (s s₂ : Shared) : Prop :=
  Goes s s₂ ∧ ∃ m' led', Fr h₀ L s₂.heap m' ∧ News h₀ L s₂.heap led' ∧ (I, ito) ∈ led' ∧ ∀ led'', (∀ p ∈ led', p.1 ≠ I → p ∈ led'') → (∀ p ∈ led'', p ∈ led' ∧ p.1 ≠ I) → Jn m' led''
noncomputable def GPost (h₀ : Heap) (L I : Addr) (ito : Obj) (Jn : (Str → Option Value) → List (Addr × Obj) → Prop) (s : Shared) (Q : Flow → Shared → Prop) (f : Flow) (s₂ : Shared) : Prop := match f with
  | .ret v => Q (.ret v) s₂
  | .brk => Q .next s₂
  | _ => GEnd h₀ L I ito Jn s s₂
noncomputable def LoopsTo (prog : Program) (w : World) (A : Around) (E : Value → Shared → Prop) (env : Env) (target : Expr) (body orelse : List Stmt) (Q : Flow → Shared → Prop) (it : Value) (s : Shared) : Prop :=
  codeAny (model prog w) A (.forLoop target it body orelse env) (fun r s' => match r with | .ok f => Q f s' | .error e => cameBackBy (model prog w) A env E e s') s
theorem loop_gen {I : Addr} {fp : List Addr} {n : Nat} {P : Nat → Value → Prop} {St : Nat → Heap → Prop} {m₀ : Str → Option Value} {led₀ : List (Addr × Obj)} (J : Nat → (Str → Option Value) → List (Addr × Obj) → Prop)
    (W : Walks prog w A I fp [I] n P St) (hI₀ : h₀.get? I = none) (hIL : env.locals ≠ I) (hst : St 0 s.heap) (live : ∀ i h, St i h → ∃ o, h.get? I = some o)
    (hfp : ∀ b ∈ fp, b = I ∨ ∃ o, ∀ i m led, J i m led → (b, o) ∈ led)
    (F : Fr h₀ env.locals s.heap m₀) (N : News h₀ env.locals s.heap led₀) (ho : ∀ p ∈ led₀, p.1 ≠ I) (hj : J 0 m₀ led₀)
    (turn : ∀ i v m₁ led₁ s₁ ito, i < n → P i v → J i m₁ led₁ → Goes s s₁ → St (i + 1) s₁.heap → (∀ p ∈ led₁, p.1 ≠ I) → Fr h₀ env.locals s₁.heap m₁ → News h₀ env.locals s₁.heap ((I, ito) :: led₁) →
      wpAny (model prog w) A (assign target env v) (fun _ s₂ => wpAny (model prog w) A (execs body env) (GPost h₀ env.locals I ito (J (i + 1)) s Q) E s₂) E s₁)
    (done : ∀ m₁ led₁ s₁, J n m₁ led₁ → Goes s s₁ → Fr h₀ env.locals s₁.heap m₁ → News h₀ env.locals s₁.heap led₁ → wpAny (model prog w) A (execs orelse env) Q E s₁)
    (hE : PassesOwn (model prog w) A env E) (ht : ∀ v, letOwnedTupleGo target (.ref I) v = pure ()) :
    LoopsTo prog w A E env target body orelse Q (.ref I) s := by
  have old : ∀ b o, h₀.get? b = some o → b ≠ I := fun b o e hb => by rw [hb, hI₀] at e; cases e
  refine codeAny_forLoop
    (fun k s' => ∃ m' led' i, Goes s s' ∧ St i s'.heap ∧ Fr h₀ env.locals s'.heap m' ∧ News h₀ env.locals s'.heap led' ∧ (∀ p ∈ led', p.1 ≠ I) ∧ J i m' led' ∧ i ≤ n ∧ k = n + 1 - i) ?_ (n + 1)
    ⟨m₀, led₀, 0, Goes.same s.heap s.toks, hst, F, N, ho, hj, Nat.zero_le _, rfl⟩ ht
  rintro k s' ⟨m', led', i, G', hst', F', N', ho', hJ, hi, rfl⟩
  have next : ∀ h₁ : Heap, (∀ b o, b ∉ [I] → s'.heap.get? b = some o → h₁.get? b = some o) → Fr h₀ env.locals h₁ m' ∧ News h₀ env.locals h₁ led' := fun h₁ hk₁ =>
    ⟨⟨F'.ns.at' fun o e => hk₁ _ o (by simpa using hIL) e, fun b o e => hk₁ b o (by simpa using old b o e) (F'.keep b o e), F'.above⟩, fun p hp => ⟨hk₁ _ _ (by simpa using ho' p hp) (N' p hp).1, (N' p hp).2⟩⟩
  by_cases hlt : i < n
  · refine W.item i _ _ _ hlt hst' fun v h₁ tk₁ hP hst₁ hk₁ => ?_
    obtain ⟨F₁, N₁⟩ := next h₁ hk₁
    obtain ⟨ito, hito⟩ := live _ _ hst₁
    have N₂ : News h₀ env.locals h₁ ((I, ito) :: led') := fun p hp => by
      rcases List.mem_cons.mp hp with rfl | hp
      · exact ⟨hito, Ne.symm hIL, hI₀⟩
      · exact N₁ _ hp
    refine wpAny_passesOwn hE ?_
    refine wpAny_mono (turn i v m' led' { s' with heap := h₁, toks := tk₁ } ito hlt hP hJ (G'.trans (Goes.same _ _)) hst₁ ho' F₁ N₂) (fun _ s₂ h₂ => ?_) fun _ _ e => e
    refine wpAny_mono (wpAny_passesOwn hE h₂) (fun f s₃ hfl => ?_) fun _ _ e => e
    have fin : GEnd h₀ env.locals I ito (J (i + 1)) s s₃ → ∃ m, m < n + 1 - i ∧ ∃ m' led' i, Goes s s₃ ∧ St i s₃.heap ∧ Fr h₀ env.locals s₃.heap m' ∧ News h₀ env.locals s₃.heap led' ∧ (∀ p ∈ led', p.1 ≠ I) ∧ J i m' led' ∧ i ≤ n ∧ m = n + 1 - i := by
      rintro ⟨G₃, m₃, led₃, F₃, N₃, hI₃, hj₃⟩
      have hJ₃ := hj₃ (led₃.filter (·.1 != I)) (fun p hp hn => List.mem_filter.mpr ⟨hp, by simpa using hn⟩) (fun p hp => ⟨(List.mem_filter.mp hp).1, by simpa using (List.mem_filter.mp hp).2⟩)
      refine ⟨n + 1 - (i + 1), by omega, m₃, led₃.filter (·.1 != I), i + 1, G₃, W.frame _ _ _ hst₁ (fun b hb o e => ?_), F₃, fun p hp => N₃ p (List.mem_filter.mp hp).1, (fun p hp => by simpa using (List.mem_filter.mp hp).2), hJ₃, hlt, rfl⟩
      rcases hfp b hb with rfl | ⟨ob, hob⟩
      · rw [hito] at e
        exact (N₃ _ hI₃).1.trans e
      · have e1 := (N₁ _ (hob _ _ _ hJ)).1
        rw [e1] at e
        exact (N₃ _ (List.mem_filter.mp (hob _ _ _ hJ₃)).1).1.trans e
    cases f with
    | ret v => exact hfl
    | brk => exact hfl
    | next => exact fin hfl
    | cont => exact fin hfl
  · have hin : i = n := by omega
    subst hin
    refine W.done _ _ _ hst' fun h₁ tk₁ hk₁ => ?_
    obtain ⟨F₁, N₁⟩ := next h₁ hk₁
    exact wpAny_passesOwn hE (done m' led' { s' with heap := h₁, toks := tk₁ } hJ (G'.trans (Goes.same _ _)) F₁ N₁)
theorem fresh_none {m : Str → Option Value} {L : Addr} (F : Fr h₀ L s.heap m) : h₀.get? s.heap.objs.size = none := by
  cases q : h₀.get? s.heap.objs.size with
  | none => rfl
  | some o => exact absurd (Heap.lt_size (F.keep _ _ q)) (Nat.lt_irrefl _)
theorem iter_strG {x : Str} {t : Tok} {m₀ : Str → Option Value} {led₀ : List (Addr × Obj)} (J : Nat → (Str → Option Value) → List (Addr × Obj) → Prop)
    (hh : A.handled = none) (ha : x.cps.all (· < 128) = true) (F : Fr h₀ env.locals s.heap m₀) (N : News h₀ env.locals s.heap led₀) (hj : J 0 m₀ led₀)
    (turn : ∀ i c u m₁ led₁ s₁ I ito, x.cps[i]? = some c → J i m₁ led₁ → Goes s s₁ → (∀ p ∈ led₁, p.1 ≠ I) → Fr h₀ env.locals s₁.heap m₁ → ito.cls = .type "str_ascii_iterator" → News h₀ env.locals s₁.heap ((I, ito) :: led₁) →
      wpAny (model prog w) A (assign target env (.str ⟨#[c]⟩ u)) (fun _ s₂ => wpAny (model prog w) A (execs body env) (GPost h₀ env.locals I ito (J (i + 1)) s Q) E s₂) E s₁)
    (done : ∀ m₁ led₁ s₁, J x.cps.size m₁ led₁ → Goes s s₁ → Fr h₀ env.locals s₁.heap m₁ → News h₀ env.locals s₁.heap led₁ → wpAny (model prog w) A (execs orelse env) Q E s₁)
    (hE : PassesOwn (model prog w) A env E) (ht : ∀ I v, letOwnedTupleGo target (.ref I) v = pure ()) :
    wpAny (model prog w) A (pyIter (.str x t)) (LoopsTo prog w A E env target body orelse Q) E s := by
  refine wpAny_pyIter_ascii ha ?_
  have hI₀ := fresh_none F
  have hz : ∀ p ∈ led₀, p.1 ≠ s.heap.objs.size := fun p hp => Nat.ne_of_lt (Heap.lt_size (N p hp).1)
  refine loop_gen (s := { s with heap := s.heap.push _ }) J (Walks.strAscii hh s.heap.objs.size x t) hI₀ (Nat.ne_of_lt F.ns.lt) ⟨_, Heap.get?_push_size _ rfl, rfl, rfl⟩ (fun i h hst => let ⟨o, ho, _⟩ := hst; ⟨o, ho⟩) (fun b hb => .inl (List.mem_singleton.mp hb)) (F.push _) (fun p hp => ⟨Heap.get?_push_of_some _ (N p hp).1, (N p hp).2⟩) hz hj ?_ ?_ hE (ht _)
  · intro i v m₁ led₁ s₁ ito hi hJ9 hJ G hst ho F₁ N₁
    obtain ⟨c, u, hc, rfl⟩ := hJ9
    obtain ⟨o, ho', hcls, _⟩ := hst
    have e : o = ito := Option.some.inj (ho'.symm.trans (N₁ _ (.head _)).1)
    subst e
    exact turn i c u m₁ led₁ s₁ _ o hc hJ ((Goes.same _ s.toks).trans G) ho F₁ hcls N₁
  · intro m₁ led₁ s₁ hJ G F₁ N₁
    exact done m₁ led₁ s₁ hJ ((Goes.same _ s.toks).trans G) F₁ N₁
theorem iter_rgG {r : Addr} {a b c : Int} {t u v : Tok} {n : Nat} {m₀ : Str → Option Value} {led₀ : List (Addr × Obj)} (J : Nat → (Str → Option Value) → List (Addr × Obj) → Prop)
    (hh : A.handled = none) (hr : IsRange s.heap r a b c t u v) (hsm : Builtin.Range.small a b c = true) (hn : Builtin.Range.rangeSize a b c = (n : Int)) (F : Fr h₀ env.locals s.heap m₀) (N : News h₀ env.locals s.heap led₀) (hj : J 0 m₀ led₀)
    (turn : ∀ i u m₁ led₁ s₁ I ito, i < n → J i m₁ led₁ → Goes s s₁ → (∀ p ∈ led₁, p.1 ≠ I) → Fr h₀ env.locals s₁.heap m₁ → ito.cls = .type "range_iterator" → News h₀ env.locals s₁.heap ((I, ito) :: led₁) →
      wpAny (model prog w) A (assign target env (.int (a + (i : Int) * c) u)) (fun _ s₂ => wpAny (model prog w) A (execs body env) (GPost h₀ env.locals I ito (J (i + 1)) s Q) E s₂) E s₁)
    (done : ∀ m₁ led₁ s₁, J n m₁ led₁ → Goes s s₁ → Fr h₀ env.locals s₁.heap m₁ → News h₀ env.locals s₁.heap led₁ → wpAny (model prog w) A (execs orelse env) Q E s₁)
    (hE : PassesOwn (model prog w) A env E) (ht : ∀ I v, letOwnedTupleGo target (.ref I) v = pure ()) :
    wpAny (model prog w) A (pyIter (.ref r)) (LoopsTo prog w A E env target body orelse Q) E s := by
  refine wpAny_pyIter_range hr hsm ?_
  have hI₀ := fresh_none F
  have hz : ∀ p ∈ led₀, p.1 ≠ s.heap.objs.size := fun p hp => Nat.ne_of_lt (Heap.lt_size (N p hp).1)
  refine loop_gen (s := { s with heap := s.heap.push _ }) J (Walks.range hh s.heap.objs.size a c n) hI₀ (Nat.ne_of_lt F.ns.lt) (by show IsRangeIter _ _ _ _ _; rw [hn]; simpa using Heap.get?_push_size _ rfl) (fun i h hst => ⟨_, hst⟩) (fun b hb => .inl (List.mem_singleton.mp hb)) (F.push _) (fun p hp => ⟨Heap.get?_push_of_some _ (N p hp).1, (N p hp).2⟩) hz hj ?_ ?_ hE (ht _)
  · intro i v m₁ led₁ s₁ ito hi hJ9 hJ G hst ho F₁ N₁
    obtain ⟨t, rfl⟩ := hJ9
    have e := Option.some.inj (hst.symm.trans (N₁ _ (.head _)).1)
    exact turn i t m₁ led₁ s₁ _ ito hi hJ ((Goes.same _ s.toks).trans G) ho F₁ (congrArg Obj.cls e).symm N₁
  · intro m₁ led₁ s₁ hJ G F₁ N₁
    exact done m₁ led₁ s₁ hJ ((Goes.same _ s.toks).trans G) F₁ N₁
theorem iter_listG {l : Addr} {vs : List Value} {n : Nat} {m₀ : Str → Option Value} {led₀ : List (Addr × Obj)} (J : Nat → (Str → Option Value) → List (Addr × Obj) → Prop)
    (hh : A.handled = none) (F : Fr h₀ env.locals s.heap m₀) (N : News h₀ env.locals s.heap led₀) (hj : J 0 m₀ led₀) (hkeep : ∀ i m led, J i m led → (l, listOf vs.toArray n) ∈ led)
    (turn : ∀ i v m₁ led₁ s₁ I ito, vs[i]? = some v → J i m₁ led₁ → Goes s s₁ → (∀ p ∈ led₁, p.1 ≠ I) → Fr h₀ env.locals s₁.heap m₁ → ito.cls = .type "list_iterator" → News h₀ env.locals s₁.heap ((I, ito) :: led₁) →
      wpAny (model prog w) A (assign target env v) (fun _ s₂ => wpAny (model prog w) A (execs body env) (GPost h₀ env.locals I ito (J (i + 1)) s Q) E s₂) E s₁)
    (done : ∀ m₁ led₁ s₁, J vs.length m₁ led₁ → Goes s s₁ → Fr h₀ env.locals s₁.heap m₁ → News h₀ env.locals s₁.heap led₁ → wpAny (model prog w) A (execs orelse env) Q E s₁)
    (hE : PassesOwn (model prog w) A env E) (ht : ∀ I v, letOwnedTupleGo target (.ref I) v = pure ()) :
    wpAny (model prog w) A (pyIter (.ref l)) (LoopsTo prog w A E env target body orelse Q) E s := by
  have hl := hkeep _ _ _ hj
  have hls : s.heap.IsList l vs.toArray := N.isList hl
  have hne : l ≠ s.heap.objs.size := Nat.ne_of_lt (Heap.lt_size (N _ hl).1)
  refine wpAny_pyIter_list hls ?_
  have hI₀ := fresh_none F
  have hz : ∀ p ∈ led₀, p.1 ≠ s.heap.objs.size := fun p hp => Nat.ne_of_lt (Heap.lt_size (N p hp).1)
  have W := Walks.list (prog := prog) (w := w) hh s.heap.objs.size l hne vs.toArray
  have hlen : vs.toArray.size = vs.length := List.size_toArray ..
  rw [hlen] at W
  refine loop_gen (s := { s with heap := s.heap.push _ }) J W hI₀ (Nat.ne_of_lt F.ns.lt) ⟨⟨_, Heap.get?_push_size _ rfl, rfl, rfl⟩, hls.at fun o e => Heap.get?_push_of_some _ e⟩ (fun i h hst => let ⟨⟨o, ho, _⟩, _⟩ := hst; ⟨o, ho⟩) (fun b hb => ?_) (F.push _) (fun p hp => ⟨Heap.get?_push_of_some _ (N p hp).1, (N p hp).2⟩) hz hj ?_ ?_ hE (ht _)
  · rcases List.mem_cons.mp hb with e | e
    · exact .inl e
    · rw [List.mem_singleton.mp e]
      exact .inr ⟨_, hkeep⟩
  · rintro i v m₁ led₁ s₁ ito hi hP hJ G hst ho F₁ N₁
    obtain ⟨⟨o, ho', hcls, _⟩, _⟩ := hst
    have e : o = ito := Option.some.inj (ho'.symm.trans (N₁ _ (.head _)).1)
    subst e
    exact turn i v m₁ led₁ s₁ _ o (by simpa using hP) hJ ((Goes.same _ s.toks).trans G) ho F₁ hcls N₁
  · intro m₁ led₁ s₁ hJ G F₁ N₁
    exact done m₁ led₁ s₁ hJ ((Goes.same _ s.toks).trans G) F₁ N₁
end
theorem led_ne {h₀ h : Heap} {L a b : Addr} {o o' : Obj} {led : List (Addr × Obj)} (N : News h₀ L h led) (h1 : (a, o) ∈ led) (h2 : (b, o') ∈ led) (hc : o.cls ≠ o'.cls) : a ≠ b := fun e => by
  subst e
  exact hc (congrArg Obj.cls (news_same N h1 h2))
theorem GTab.ne {h₀ h : Heap} {L P b : Addr} {o : Obj} {pos : Pos} {led : List (Addr × Obj)} (ht : GTab P pos led) (N : News h₀ L h led) (hb : (b, o) ∈ led) (ho : o.cls ≠ .none) : P ≠ b := fun e => by
  subst e
  rcases ht with ht | ⟨c', ht⟩
  · exact ho (congrArg Obj.cls (news_same N hb ht))
  · exact ho (congrArg Obj.cls (news_same N hb ht))
section
variable {prog : Program} {w : World} {p : Program} {loose : List Str} {mean : ExcName → Option Value} {mg mb : Str → Option Value}
theorem lenB {dp un : Nat} {gd : Option (List Code)} {cn : Str} {cs : Scope} {a : Addr} {ccd : Value} {cl : List (Str × Addr)} {outer : List Env} {A₀ : Around} {base h₀ : Heap} {L : Addr} {m : Str → Option Value} {s : Shared} {Q E : Value → Shared → Prop} {news : List (Addr × Obj)} {x dx : Addr} {ps : List Str}
    (B : Below A₀ base outer h₀) (F : Fr h₀ L s.heap m) (X : (Mine.hd.heap_39 w.params).In h₀) (N : News h₀ L s.heap news) (T : Top p loose mean mg mb h₀) (hk : cs.kind = .function) (S : AccIs news x dx ps) (G : AllBare s.gens) (ht : LenTab news) (hz : ps.length < 2 ^ 9) (hz2 : ∀ p ∈ ps, p.length < 2 ^ 9) (hd : dp + 20 < recursionLimit) (hu : un + 160 < cLine)
    (hret : ∀ s' led' t, Fr h₀ L s'.heap m → News h₀ L s'.heap led' → Goes s s' → LenTab led' → AccIs led' x dx ps → (∀ q ∈ news, q.1 ≠ 175 → q ∈ led') → Q (.int (lenS ps : Nat) t) s') :
    wpAny (model prog w) (ktrTop dp un gd cn cs L a ccd cl outer) (call (.builtin "len") [.ref x]) Q E s := by
  have S0 := S
  obtain ⟨n, hsh, tk, u, as, hx, hdx, hl, hp⟩ := S
  refine len_K F X (acc_inst F N hx hdx) (f := 180) (by kernel_rfl) (by kernel_rfl) ?_
  k_dflt (refine' lenC ?k1 ?k2 ?k3 ?k4 ?k5 ?kK S0 G ht (by omega) (fun p hp => by have := hz2 p hp; omega) ?kd ?ku ?_; (case k1 => k_asm); (case k2 => k_asm); (case k3 => k_asm); (case k4 => k_asm); (case k5 => k_asm); (case kK => first | exact rfl | assumption); (case kd => ktr_room); (case ku => first | ktr_units | (show un + 1 + 150 < cLine; ktr_units) | (show un + 1 + 3 + 150 < cLine; ktr_units)))
  intro s5 led5 t5 F5 N5 G5 ht5 hk5
  have := sum_le ps (k := 2 ^ 9) fun q hq => Nat.le_of_lt (hz2 q hq)
  have hls : lenS ps < 2 ^ 62 := by
    show (ps.map (·.length)).sum < _
    omega
  exact ⟨⟨by omega, by omega⟩, hret { s5 with toks := s5.toks + 1 } led5 _ F5 N5 (G5.trans (Goes.same _ _)) ht5 (S0.tab N ht hk5) hk5⟩
theorem strB {dp un : Nat} {gd : Option (List Code)} {cn : Str} {cs : Scope} {a : Addr} {ccd : Value} {cl : List (Str × Addr)} {outer : List Env} {A₀ : Around} {base h₀ : Heap} {L : Addr} {m : Str → Option Value} {s : Shared} {Q E : Value → Shared → Prop} {news : List (Addr × Obj)} {x dx : Addr} {ps : List Str}
    (B : Below A₀ base outer h₀) (F : Fr h₀ L s.heap m) (X : (Mine.hd.heap_39 w.params).In h₀) (N : News h₀ L s.heap news) (T : Top p loose mean mg mb h₀) (hk : cs.kind = .function) (S : AccIs news x dx ps) (G : AllBare s.gens) (ht : StrTab news) (hz : ps.length < 2 ^ 9) (hz2 : ∀ p ∈ ps, p.length < 2 ^ 9) (hd : dp + 20 < recursionLimit) (hu : un + 160 < cLine)
    (hret : ∀ s' led' t, Fr h₀ L s'.heap m → News h₀ L s'.heap led' → Goes s s' → StrTab led' → AccIs led' x dx ps → (∀ q ∈ news, q.1 ≠ 182 → q ∈ led') → Q (.str (catS ps) t) s') :
    wpAny (model prog w) (ktrTop dp un gd cn cs L a ccd cl outer) (call (.type "str") [.ref x]) Q E s := by
  have S0 := S
  obtain ⟨n, hsh, tk, u, as, hx, hdx, hl, hp⟩ := S
  refine kso_call (f := 187) (by ktr_units) (X.keeps F.keep) (acc_inst F N hx hdx) (by kernel_rfl) (by kernel_rfl) ?_
  k_dflt (refine' strC ?k1 ?k2 ?k3 ?k4 ?k5 ?kK S0 G ht hz hz2 ?kd ?ku ?_; (case k1 => k_asm); (case k2 => k_asm); (case k3 => k_asm); (case k4 => k_asm); (case k5 => k_asm); (case kK => first | exact rfl | assumption); (case kd => ktr_room); (case ku => first | ktr_units | (show un + 1 + 150 < cLine; ktr_units) | (show un + 1 + 3 + 150 < cLine; ktr_units)))
  intro s6 led6 t6 F6 N6 G6 ht6 hk6
  dsimp only [StrBack]
  exact hret s6 led6 t6 F6 N6 G6 ht6 (S0.tab N ht hk6) hk6
end
end XGLoop
section XChunk
set_option maxRecDepth 100000

example : True := by
  k_with_none
  trivial

example : True := by
  k_with "getMethod ref" => (k_here; k_dflt (refine' acc_methA ?wkF ?wkX ?wkN ?wkhx ?wkhdx ?_; (case wkF => k_asm); (case wkX => k_asm); (case wkN => k_asm); (case wkhx => k_mem); (case wkhdx => k_mem)))
  k_with "getMethod ref" => (k_here; k_dflt (refine' acc_meth ?wkF ?wkX ?wkN ?wkhx ?wkhdx ?wkhf ?wkht ?wkhn ?_; (case wkF => k_asm); (case wkX => k_asm); (case wkN => k_asm); (case wkhx => k_mem); (case wkhdx => k_mem); (case wkhf => k_is); (case wkht => k_is); (case wkhn => decide)))
  k_with "call builtin:list.append" => (k_here; k_dflt (refine' acc_app ?wkF ?wkX ?wkN ?wkhx ?wkhdx ?wkhz ?_; (case wkF => k_asm); (case wkX => k_asm); (case wkN => k_asm); (case wkhx => k_mem); (case wkhdx => k_mem); (case wkhz => omega)); intro _ _ _ _ _ _ _ _)
  k_with "call ref" => refine Held.mk ?_
  k_with "getAttr ref" => (k_here; k_dflt (refine' acc_size ?wkF ?wkX ?wkN ?wkhx ?wkhdx ?_; (case wkF => k_asm); (case wkX => k_asm); (case wkN => k_asm); (case wkhx => k_mem); (case wkhdx => k_mem)))
  k_with "call type:str" => refine Held.mk ?_
  k_with "pyIter ref" => refine Held.mk ?_
  k_with "pyIter str" => refine Held.mk ?_
  k_with "exec For Name Attribute cons cons" => (k_here; refine wpAny_For ?_ (fun _ => rfl))
  k_with "exec For Name Call cons cons" => (k_here; refine wpAny_For ?_ (fun _ => rfl))
  trivial
section
variable {prog : Program} {w : World} {A : Around} {E : Value → Shared → Prop} {s : Shared} {mk dm ls x L : Addr} {h₀ : Heap} {m : Str → Option Value} {news : List (Addr × Obj)} {q : MkT}
theorem mk_get {name : Str} {v : Value} {expr : Bool} {Q : Value → Shared → Prop} (F : Fr h₀ L s.heap m) (X : (Mine.hd.heap_39 w.params).In h₀) (N : News h₀ L s.heap news) (hmk : (mk, instObj 129 dm) ∈ news) (hdm : (dm, dictOf (mkEs q ls x) 6) ∈ news)
    (hg : plainGet (Mine.hd.heap_39 w.params) 129 name = true) (hh : hasDictIn (Mine.hd.heap_39 w.params) 129 = true) (ha : findIn (Mine.hd.heap_39 w.params) (.ref 129) name = some none) (hn : noGet (Mine.hd.heap_39 w.params) none = true) (hl : getL name (mkEs q ls x) = some (some v)) (hv : handedIn v = true)
    (h : Q v { s with toks := s.toks + 1 }) : wpAny (model prog w) A (getAttr (.ref mk) name expr) Q E s :=
  get_own F X (InstAt.of_news N hmk hdm) hg hh ha hn hl hv h
theorem mk_cl {expr : Bool} {Q : Value → Shared → Prop} (F : Fr h₀ L s.heap m) (X : (Mine.hd.heap_39 w.params).In h₀) (N : News h₀ L s.heap news) (hmk : (mk, instObj 129 dm) ∈ news) (hdm : (dm, dictOf (mkEs q ls x) 6) ∈ news)
    (h : Q (.ref x) { s with toks := s.toks + 1 }) : wpAny (model prog w) A (getAttr (.ref mk) (Str.ofString "_current_line") expr) Q E s :=
  mk_get F X N hmk hdm (by k_is) (by k_is) (by k_is) (by k_is) (by kernel_rfl) (by k_handed) h
theorem mk_ml {expr : Bool} {Q : Value → Shared → Prop} (F : Fr h₀ L s.heap m) (X : (Mine.hd.heap_39 w.params).In h₀) (N : News h₀ L s.heap news) (hmk : (mk, instObj 129 dm) ∈ news) (hdm : (dm, dictOf (mkEs q ls x) 6) ∈ news)
    (h : Q (.int 0 q.u1) { s with toks := s.toks + 1 }) : wpAny (model prog w) A (getAttr (.ref mk) (Str.ofString "_maxlen") expr) Q E s :=
  mk_get F X N hmk hdm (by k_is) (by k_is) (by k_is) (by k_is) (by kernel_rfl) (by k_handed) h
theorem mk_sp {expr : Bool} {Q : Value → Shared → Prop} (F : Fr h₀ L s.heap m) (X : (Mine.hd.heap_39 w.params).In h₀) (N : News h₀ L s.heap news) (hmk : (mk, instObj 129 dm) ∈ news) (hdm : (dm, dictOf (mkEs q ls x) 6) ∈ news)
    (h : Q (.str (Str.ofString ")") q.u4) { s with toks := s.toks + 1 }) : wpAny (model prog w) A (getAttr (.ref mk) (Str.ofString "_splitchars") expr) Q E s :=
  mk_get F X N hmk hdm (by k_is) (by k_is) (by k_is) (by k_is) (by kernel_rfl) (by k_handed) h
theorem mk_ln {expr : Bool} {Q : Value → Shared → Prop} (F : Fr h₀ L s.heap m) (X : (Mine.hd.heap_39 w.params).In h₀) (N : News h₀ L s.heap news) (hmk : (mk, instObj 129 dm) ∈ news) (hdm : (dm, dictOf (mkEs q ls x) 6) ∈ news)
    (h : Q (.ref ls) { s with toks := s.toks + 1 }) : wpAny (model prog w) A (getAttr (.ref mk) (Str.ofString "_lines") expr) Q E s :=
  mk_get F X N hmk hdm (by k_is) (by k_is) (by k_is) (by k_is) (by kernel_rfl) (by k_handed) h
end
example : True := by
  k_with "getAttr ref" => (k_here; (with_reducible show wpAny _ _ (getAttr (Value.ref _) (PySem.Str.ofString "_current_line") _) _ _ _); k_dflt (refine' mk_cl ?wkF ?wkX ?wkN ?wkhmk ?wkhdm ?_; (case wkF => k_asm); (case wkX => k_asm); (case wkN => k_asm); (case wkhmk => k_mem); (case wkhdm => k_mem)))
  k_with "getAttr ref" => (k_here; (with_reducible show wpAny _ _ (getAttr (Value.ref _) (PySem.Str.ofString "_maxlen") _) _ _ _); k_dflt (refine' mk_ml ?wkF ?wkX ?wkN ?wkhmk ?wkhdm ?_; (case wkF => k_asm); (case wkX => k_asm); (case wkN => k_asm); (case wkhmk => k_mem); (case wkhdm => k_mem)))
  k_with "getAttr ref" => (k_here; (with_reducible show wpAny _ _ (getAttr (Value.ref _) (PySem.Str.ofString "_splitchars") _) _ _ _); k_dflt (refine' mk_sp ?wkF ?wkX ?wkN ?wkhmk ?wkhdm ?_; (case wkF => k_asm); (case wkX => k_asm); (case wkN => k_asm); (case wkhmk => k_mem); (case wkhdm => k_mem)))
  k_with "getAttr ref" => (k_here; (with_reducible show wpAny _ _ (getAttr (Value.ref _) (PySem.Str.ofString "_lines") _) _ _ _); k_dflt (refine' mk_ln ?wkF ?wkX ?wkN ?wkhmk ?wkhdm ?_; (case wkF => k_asm); (case wkX => k_asm); (case wkN => k_asm); (case wkhmk => k_mem); (case wkhdm => k_mem)))
  k_with "getAttr ref" => (k_here; (with_reducible show wpAny _ _ (getAttr (Value.ref _) (PySem.Str.ofString "_initial_size") _) _ _ _); k_dflt (refine' acc_size ?wkF ?wkX ?wkN ?wkhx ?wkhdx ?_; (case wkF => k_asm); (case wkX => k_asm); (case wkN => k_asm); (case wkhx => k_mem); (case wkhdx => k_mem)))
  k_with "call builtin:len" => refine Held.mk ?_
  trivial
section
variable {prog : Program} {w : World} {A : Around} {E : Value → Shared → Prop} {s : Shared} {x dx L : Addr} {h₀ : Heap} {m : Str → Option Value} {news : List (Addr × Obj)} {n : Nat} {hsh : Int} {tk u : Tok}
theorem acc_at {value slice : Expr} {its : Array Value} {k : Int} {t : Tok} {v : Value} {Q : Value → Shared → Prop} (F : Fr h₀ L s.heap m) (X : (Mine.hd.heap_39 w.params).In h₀) (N : News h₀ L s.heap news) (hx : (x, accObj 213 dx its n) ∈ news) (hdx : (dx, accD hsh tk u) ∈ news)
    (h0 : 0 ≤ k) (hfit : k < 2 ^ 63) (hi : its[k.toNat]? = some v) (h : Q v s) (h2 : ∃ vs, subscripted slice false (.ref x) (.int k t) = operate vs (getItem (.ref x) (.int k t))) : wpAny (model prog w) A (subscriptTail value slice (.ref x) (.int k t)) Q E s := by
  have X1 := X.keeps F.keep
  have I := acc_inst F N hx hdx
  refine acc_tail X1 I (by kernel_rfl) ?_ h2
  refine acc_getItem X1 (accK _) I (by kernel_rfl) ?_
  exact acc_item F X N (accK _) hx hdx h0 hfit hi (wpAny_letTemporaryGo h)
end
theorem cons_sub {α : Type} {a : α} {l l' : List α} (h : ∀ p ∈ l, p ∈ l') : ∀ p ∈ a :: l, p ∈ a :: l' := fun p hp => by
  rcases List.mem_cons.mp hp with rfl | hp
  · exact .head _
  · exact .tail _ (h p hp)
theorem GTab.mono {P : Addr} {pos : Pos} {led led' : List (Addr × Obj)} (ht : GTab P pos led) (hk : ∀ o, (P, o) ∈ led → (P, o) ∈ led') : GTab P pos led' := by
  rcases ht with h | ⟨c, h⟩
  · exact .inl (hk _ h)
  · exact .inr ⟨c, hk _ h⟩
theorem dm_ne {h₀ h : Heap} {L dm dx ls x : Addr} {led : List (Addr × Obj)} {q : MkT} {hsh : Int} {tk u : Tok} (N : News h₀ L h led) (h1 : (dm, dictOf (mkEs q ls x) 6) ∈ led) (h2 : (dx, accD hsh tk u) ∈ led) : dm ≠ dx := fun e => by
  subst e
  have := news_same N h1 h2
  cases this
theorem size_down (n : Nat) : Builtin.Range.rangeSize (n : Int) 0 (-1) = (n : Int) := by
  unfold Builtin.Range.rangeSize
  first | refine wpAny_no (by decide) ?_ | refine wpC_no (by decide) ?_ | rw [if_neg (by decide)]
  split
  · rw [show -(-1 : Int) = 1 by decide, Int.ediv_one]; omega
  · omega
theorem small_down {n : Nat} (h : n < 2 ^ 61) : Builtin.Range.small (n : Int) 0 (-1) = true := by
  unfold Builtin.Range.small
  rw [size_down]
  simp only [Builtin.Range.rangeFitsLong, Bool.and_eq_true, Bool.or_eq_true, decide_eq_true_eq, beq_iff_eq, show ¬ ((-1 : Int) > 0) by decide, if_false]
  omega
example : True := by
  k_with "call builtin:list.append" => refine Held.mk ?_
  k_with "GPost" => dsimp only [GPost]
  trivial
noncomputable def lastP (q : Str) : Bool := Txt.item q (-1) == Str.ofString ")"
noncomputable def closes (ps : List Str) : Bool := match ps.getLast? with
  | some q => lastP q
  | none => false
noncomputable def chunk (lines ps : List Str) (p : Str) : List Str × List Str := if closes ps then (lines ++ [catS ps], [p]) else (lines, ps ++ [p])
noncomputable def CH (news led : List (Addr × Obj)) (mk dm ls x dx : Addr) (q : MkT) (wl : List Value) (nl : Nat) (qs : List Str) : Prop :=
  (mk, instObj 129 dm) ∈ led ∧ (dm, dictOf (mkEs q ls x) 6) ∈ led ∧ (ls, listOf wl.toArray nl) ∈ led ∧ AccIs led x dx qs ∧ LenTab led ∧ StrTab led ∧ ∀ p ∈ news, p.1 ≠ x → p.1 ≠ 175 → p ∈ led
noncomputable def itoCls (c : Value) : Bool := match c with
  | .type t => t == "str_ascii_iterator" || t == "range_iterator" || t == "list_iterator"
  | _ => false
theorem CH.keep {news led led' : List (Addr × Obj)} {mk dm ls x dx : Addr} {q : MkT} {wl : List Value} {nl : Nat} {qs : List Str} (C : CH news led mk dm ls x dx q wl nl qs) (hk : ∀ p ∈ led, p ∈ led') : CH news led' mk dm ls x dx q wl nl qs := by
  obtain ⟨a1, a2, a3, a4, a5, a6, a7⟩ := C
  refine ⟨hk _ a1, hk _ a2, hk _ a3, a4.grow hk, ?_, ?_, fun p hp h1 h2 => hk _ (a7 p hp h1 h2)⟩
  · rcases a5 with h | ⟨c, h⟩
    · exact .inl (hk _ h)
    · exact .inr ⟨c, hk _ h⟩
  · rcases a6 with h | ⟨c, h⟩
    · exact .inl (hk _ h)
    · exact .inr ⟨c, hk _ h⟩
inductive JC1 (mk : Addr) (led6 : List (Addr × Obj)) (ps : List Str) (i : Nat) (m : Str → Option Value) (led : List (Addr × Obj)) : Prop
  | mk (hk : ∀ p ∈ led6, p ∈ led) (hm : Pins m [(Str.ofString "self", .ref mk)]) (hc : i = 0 ∨ closes ps = false) : JC1 mk led6 ps i m led
inductive JC2 (mk : Addr) (led9 : List (Addr × Obj)) (ps : List Str) (uc : Tok) (j : Nat) (m : Str → Option Value) (led : List (Addr × Obj)) : Prop
  | mk (hk : ∀ p ∈ led9, p ∈ led) (hm : Pins m [(Str.ofString "self", .ref mk), (Str.ofString "ch", .str (Str.ofString ")") uc)]) (hn : ∀ j' < j, ∀ r, ps[ps.length - 1 - j']? = some r → lastP r = false) : JC2 mk led9 ps uc j m led
section
variable {prog : Program} {w : World} {p : Program} {loose : List Str} {mean : ExcName → Option Value} {mg mb : Str → Option Value}
set_option maxHeartbeats 8000000 in
theorem chunkC (hpr : PrOk prog) {dp un : Nat} {gd : Option (List Code)} {cn : Str} {cs : Scope} {a : Addr} {ccd : Value} {cl : List (Str × Addr)} {outer : List Env} {A₀ : Around} {base h₀ : Heap} {L : Addr} {m : Str → Option Value} {s : Shared} {Q E : Value → Shared → Prop} {news : List (Addr × Obj)} {mk dm ls x dx : Addr} {lines ps : List Str} {p' : Str} {t1 t2 : Tok}
    (B : Below A₀ base outer h₀) (F : Fr h₀ L s.heap m) (X : (Mine.hd.heap_39 w.params).In h₀) (N : News h₀ L s.heap news) (T : Top p loose mean mg mb h₀) (hk : cs.kind = .function) (S : MkAt news mk dm ls x dx lines ps) (G : AllBare s.gens) (ht : LenTab news) (ht2 : StrTab news)
    (hz : ps.length < 2 ^ 8) (hz2 : ∀ q ∈ ps, 0 < q.length ∧ q.length < 2 ^ 8) (hp1 : 0 < p'.length) (hp2 : p'.length < 2 ^ 8) (hzl : lines.length < 2 ^ 8) (hlow : ∀ i q, i + 1 < ps.length → ps[i]? = some q → lastP q = false)
    (hd : dp + 40 < recursionLimit) (hu : un + 350 < cLine)
    (hret : ∀ s' led', Fr h₀ L s'.heap m → News h₀ L s'.heap led' → Goes s s' → MkAt led' mk dm ls x dx (chunk lines ps p').1 (chunk lines ps p').2 → LenTab led' → StrTab led' → (∀ q ∈ news, q.1 ≠ x → q.1 ≠ dx → q.1 ≠ ls → q.1 ≠ 175 → q.1 ≠ 182 → q ∈ led') → Q .none s') :
    wpAny (model prog w) (ktrTop dp un gd cn cs L a ccd cl outer) (call (.ref 126) [.ref mk, .str Str.empty t1, .str p' t2]) Q E s := by
  have S0 := S
  obtain ⟨q, wl, nl, hmk, hdm, hls, hwl, hac⟩ := S
  have hall : ∀ q ∈ ps ++ [p'], q.length < 2 ^ 9 := fun q hq => by
    rcases List.mem_append.mp hq with hq | hq
    · have := (hz2 q hq).2; omega
    · rw [List.mem_singleton.mp hq]; omega
  have hac0 := hac
  obtain ⟨n, hsh, tk, u, as, hx, hdx, hl, hp⟩ := hac
  refine wpAny_call ?_
  k_dflt (refine' code_def ?k1 ?k2 ?k3 ?k4 ?k5 ?kA ?kF ?kK ?k6 ?k7 ?k8 ?k9 ?kB ?_ ?c2 ?c3 ?c4 ?c5; (case kA => exact rfl); (case kF => exact rfl); (case kK => first | assumption | exact rfl); (case k1 => k_asm); (case k2 => k_asm); (case k3 => k_asm); (case k4 => k_asm); (case k5 => k_asm); (case k6 => k_is); (case k7 => k_is); (case k8 => ktr_room); (case k9 => first | exact BindsTo.of_eq rfl | exact binds_K (by k_in) rfl (by k_is) rfl rfl rfl | (refine' kp_binds ?kx ?ke; (case kx => k_in); (case ke => exact fun _ => rfl)) | fail "x_enter: no rule for these arguments"); (case c5 => decide); (case kB => exact locs rfl); (case c2 => exact rfl); (case c3 => exact rfl); (case c4 => exact rfl); k_whole; intro g' L' h' FG' F' N' B' X' T'; (try dsimp only); (try k_lift B'); (try k_fold))
  k_steps
  refine Held.out ?_
  k_dflt (refine' pushC ?k1 ?k2 ?k3 ?k4 ?k5 ?kK hac0 (by omega) ?kd ?ku ?_; (case k1 => k_asm); (case k2 => k_asm); (case k3 => k_asm); (case k4 => k_asm); (case k5 => k_asm); (case kK => first | exact rfl | assumption); (case kd => ktr_room); (case ku => first | ktr_units | (show un + 1 + 150 < cLine; ktr_units) | (show un + 1 + 3 + 150 < cLine; ktr_units)))
  intro s5 led5 F5 N5 G5 S5 hk5
  have hmx : mk ≠ x := led_ne N hmk hx (by intro h; cases h)
  have hdmx : dm ≠ x := led_ne N hdm hx (by intro h; cases h)
  have hlx : ls ≠ x := led_ne N hls hx (by intro h; cases h)
  have hmk5 := hk5 _ hmk hmx
  have hdm5 := hk5 _ hdm hdmx
  have hls5 := hk5 _ hls hlx
  k_steps
  refine Held.out ?_
  have ht5 : LenTab led5 := ht.keep (ht.ne N hx (by intro h; cases h)) hk5
  have ht25 : StrTab led5 := ht2.keep (ht2.ne N hx (by intro h; cases h)) hk5
  k_dflt (refine' lenB ?k1 ?k2 ?k3 ?k4 ?k5 ?kK S5 (G5.1 G) ht5 (by rw [List.length_append, List.length_singleton]; omega) hall ?kd ?ku ?_; (case k1 => k_asm); (case k2 => k_asm); (case k3 => k_asm); (case k4 => k_asm); (case k5 => k_asm); (case kK => first | exact rfl | assumption); (case kd => ktr_room); (case ku => first | ktr_units | (show un + 1 + 150 < cLine; ktr_units) | (show un + 1 + 3 + 150 < cLine; ktr_units)))
  intro s6 led6 t6 F6 N6 G6 ht6 S6 hk6
  have h175 : ∀ {b : Addr} {o : Obj}, (b, o) ∈ led5 → o.cls ≠ .none → b ≠ 175 := fun h hc => Ne.symm (ht5.ne N5 h hc)
  have hmk6 := hk6 _ hmk5 (h175 hmk5 (by intro h; cases h))
  have hdm6 := hk6 _ hdm5 (h175 hdm5 (by intro h; cases h))
  have hls6 := hk6 _ hls5 (h175 hls5 (by intro h; cases h))
  have ht26 : StrTab led6 := ht25.keep (by decide) hk6
  have hpos : 0 < lenS (ps ++ [p']) := by
    show 0 < ((ps ++ [p']).map (·.length)).sum
    rw [List.map_append, List.sum_append]
    show 0 < _ + (p'.length + 0)
    omega
  have hnz : ps.length + 1 < 2 ^ 10 := by omega
  k_steps
  have S6c := S6
  obtain ⟨n6, hsh6, tk6, u6, as6, hx6, hdx6, hl6, hp6⟩ := S6c
  have C6 : CH news led6 mk dm ls x dx q wl nl (ps ++ [p']) := ⟨hmk6, hdm6, hls6, S6, ht6, ht26, fun p hp h1 h2 => hk6 _ (hk5 _ hp h1) h2⟩
  refine Held.out ?_
  refine iter_strG (J := JC1 mk led6 ps) rfl (by decide +kernel) F6 N6 ⟨fun _ h => h, .cons rfl .nil, .inl rfl⟩ ?_ ?_ (by passes_own) (fun _ _ => rfl)
  · intro i c uc m7 led7 s7 I7 ito7 hc hJ9 G7 ho7 F7 ht7 N7
    obtain ⟨hs7, hm7, -⟩ := hJ9
    have hc41 : c = 41 := by
      have : #[41][i]? = some c := hc
      rw [Array.getElem?_eq_some_iff] at this
      obtain ⟨h1, h2⟩ := this
      have : i = 0 := by simpa using h1
      subst this
      exact h2.symm
    subst hc41
    replace F7 : Fr g' L' s7.heap _ := fr_pins F7 hm7
    replace N7 : News g' L' s7.heap ((I7, ito7) :: led6) := fun p hp => N7 p (cons_sub hs7 p hp)
    replace ho7 : ∀ p ∈ led6, p.1 ≠ I7 := fun p hp => ho7 p (hs7 p hp)
    clear hs7 led7
    k_steps
    rename Fr _ _ _ _ => F8
    rename News _ _ _ _ => N8
    refine Held.out ?_
    k_dflt (refine' partC hpr ?k1 ?k2 ?k3 ?k4 ?k5 ?kK (S6.grow (led' := (I7, ito7) :: led6) fun _ h => .tail _ h) ?kd ?ku ?_; (case k1 => k_asm); (case k2 => k_asm); (case k3 => k_asm); (case k4 => k_asm); (case k5 => k_asm); (case kK => first | exact rfl | assumption); (case kd => ktr_room); (case ku => first | ktr_units | (show un + 1 + 150 < cLine; ktr_units) | (show un + 1 + 3 + 150 < cLine; ktr_units)))
    intro s9 led9 t9 F9 N9 G9 hk9
    have C9 := C6.keep fun p h => hk9 _ (.tail _ h)
    have hI9 := hk9 _ (.head _)
    have hlen1 : ((ps ++ [p']).length : Int) - 1 = (ps.length : Nat) := by rw [List.length_append, List.length_singleton]; omega
    k_steps
    rename IsRange _ _ _ _ _ _ _ _ => hrg
    rename Fr _ _ _ _ => Fa
    rename News _ _ _ _ => Na
    rw [hlen1] at hrg
    obtain ⟨d1, d2, d3, S9, d5, d6, d7⟩ := C9
    have S9c := S9
    obtain ⟨n9, hsh9, tk9, u9, as9, hx9, hdx9, hl9, hp9⟩ := S9c
    refine Held.out ?_
    refine iter_rgG (n := ps.length) (J := JC2 mk led9 ps uc) rfl hrg (small_down (by omega)) (size_down _) Fa Na ⟨fun _ h => h, .cons rfl (.cons rfl .nil), fun _ h => absurd h (Nat.not_lt_zero _)⟩ ?_ ?_ (by passes_own) (fun _ _ => rfl)
    · intro j uj m10 led10 s10 I10 ito10 hj hJ9 G10 ho10 F10 ht10 N10
      obtain ⟨hs10, hm10, hno⟩ := hJ9
      replace F10 : Fr g' L' s10.heap _ := fr_pins F10 hm10
      replace N10 : News g' L' s10.heap ((I10, ito10) :: led9) := fun p hp => N10 p (cons_sub hs10 p hp)
      replace ho10 : ∀ p ∈ led9, p.1 ≠ I10 := fun p hp => ho10 p (hs10 p hp)
      clear hs10 led10
      have hkl : ps.length - 1 - j < ps.length := by omega
      have hr1 : ps[ps.length - 1 - j]? = some ps[ps.length - 1 - j] := List.getElem?_eq_getElem hkl
      generalize hrr : ps[ps.length - 1 - j] = r at hr1
      have hrm : r ∈ ps := List.mem_of_getElem? hr1
      have hrz := hz2 r hrm
      have hal9 : as9.length = ps.length + 1 := by rw [hl9, List.length_append, List.length_singleton]
      have hkl9 : ps.length - 1 - j < as9.length := by omega
      have hb1 : as9[ps.length - 1 - j]? = some as9[ps.length - 1 - j] := List.getElem?_eq_getElem hkl9
      generalize hbb : as9[ps.length - 1 - j] = b at hb1
      obtain ⟨tb, tb', hbt⟩ := hp9 _ _ _ hb1 (show (ps ++ [p'])[ps.length - 1 - j]? = some r by rw [List.getElem?_append_left hkl]; exact hr1)
      have hk9' : ((ps.length : Nat) : Int) + (j : Int) * -1 - 1 = ((ps.length - 1 - j : Nat) : Int) := by omega
      have hr0 : 0 < r.length := hrz.1
      k_steps
      k_here
      refine acc_at (by k_asm) X' (by assumption) (.tail _ hx9) (.tail _ hdx9) (v := .ref b) (by omega) (by omega) (by rw [hk9', Int.toNat_natCast, List.getElem?_toArray, List.getElem?_map, hb1]; rfl) ?_ ⟨_, rfl⟩
      k_steps
      · rename ((Txt.item r (-1) == Str.ofString ")") = true) => hyl
        rename Fr _ _ _ _ => Fb
        rename News _ _ _ _ => Nb
        have hj0 : j = 0 := by
          rcases Nat.eq_zero_or_pos j with h | h
          · exact h
          · have := hlow _ r (by omega) hr1
            rw [show lastP r = true from hyl] at this
            cases this
        subst hj0
        have e0 : ((ps.length : Nat) : Int) + ((0 : Nat) : Int) * -1 = ((ps.length : Nat) : Int) := by omega
        have hcl : closes ps = true := by
          unfold closes
          rw [List.getLast?_eq_getElem?, show ps.length - 1 = ps.length - 1 - 0 from rfl, hr1]
          exact hyl
        have hpz : (ps ++ [p']).length < 2 ^ 10 := by rw [List.length_append, List.length_singleton]; omega
        rw [e0]
        refine Held.out ?_
        k_dflt (refine' popFromC ?k1 ?k2 ?k3 ?k4 ?k5 ?kK (S9.grow (led' := (I10, ito10) :: led9) fun _ h => .tail _ h) (by rw [List.length_append]; omega) hpz ?kd ?ku ?_; (case k1 => k_asm); (case k2 => k_asm); (case k3 => k_asm); (case k4 => k_asm); (case k5 => k_asm); (case kK => first | exact rfl | assumption); (case kd => ktr_room); (case ku => first | ktr_units | (show un + 1 + 150 < cLine; ktr_units) | (show un + 1 + 3 + 150 < cLine; ktr_units)))
        intro s11 led11 D bs nD F11 N11 G11 S11 hD11 hP11 hk11 l11
        rw [List.take_left] at S11
        rw [List.drop_left] at hP11
        have hmx9 : mk ≠ x := hmx
        have hmkA := hk11 _ (.tail _ d1) hmx
        have hdmA := hk11 _ (.tail _ d2) hdmx
        have hlsA := hk11 _ (.tail _ d3) hlx
        have S11c := S11
        obtain ⟨n11, hsh11, tk11, u11, as11, hx11, hdx11, hl11, hp11⟩ := S11c
        have htA : LenTab led11 := d5.keep (ht.ne N hx (by intro h; cases h)) fun q hq => hk11 q (.tail _ hq)
        have htA2 : StrTab led11 := d6.keep (ht2.ne N hx (by intro h; cases h)) fun q hq => hk11 q (.tail _ hq)
        have A6 : Goes s s6 := (Goes.same _ _).trans (G5.trans ((Goes.same _ _).trans G6))
        have A7 : Goes s s7 := A6.trans ((Goes.same _ _).trans G7)
        have A9 : Goes s s9 := A7.trans ((Goes.same _ _).trans G9)
        have A10 : Goes s s10 := A9.trans ((Goes.same _ _).trans G10)
        have A11 : Goes s s11 := A10.trans ((Goes.same _ _).trans G11)
        have hall9 : ∀ q ∈ ps, q.length < 2 ^ 9 := fun q hq => by have := (hz2 q hq).2; omega
        have hwl1 := hwl.length
        k_steps
        rename Fr _ _ _ _ => Fc
        rename News _ _ _ _ => Nc
        refine Held.out ?_
        k_dflt (refine' strB ?k1 ?k2 ?k3 ?k4 ?k5 ?kK S11 (A11.1 G) htA2 (by omega) hall9 ?kd ?ku ?_; (case k1 => k_asm); (case k2 => k_asm); (case k3 => k_asm); (case k4 => k_asm); (case k5 => k_asm); (case kK => first | exact rfl | assumption); (case kd => ktr_room); (case ku => first | ktr_units | (show un + 1 + 150 < cLine; ktr_units) | (show un + 1 + 3 + 150 < cLine; ktr_units)))
        intro s12 led12 t12 F12 N12 G12 htB2 S12 hk12
        have h182 : ∀ {b : Addr} {o : Obj}, (b, o) ∈ led11 → o.cls ≠ .none → b ≠ 182 := fun h hc => Ne.symm (htA2.ne Nc h hc)
        have hmkB := hk12 _ hmkA (h182 hmkA (by intro h; cases h))
        have hdmB := hk12 _ hdmA (h182 hdmA (by intro h; cases h))
        have hlsB := hk12 _ hlsA (h182 hlsA (by intro h; cases h))
        have hDB := hk12 _ hD11 (h182 hD11 (by intro h; cases h))
        have hPB : PairL led12 bs [p'] := hP11.grow fun b vs h => hk12 _ h (h182 h (by intro h; cases h))
        have htB : LenTab led12 := htA.keep (by decide) hk12
        have A12 : Goes s s12 := A11.trans ((Goes.same _ _).trans G12)
        have hwlz : wl.length < 2 ^ 20 := by omega
        k_steps
        refine Held.out ?_
        k_here
        refine append_ws F12 N12 hlsB hwlz ?_
        intro h13 led13 F13 N13 hm13 hk13 ha13
        have hlm : ∀ {b : Addr} {o : Obj}, (b, o) ∈ led12 → o.cls ≠ .type "list" → b ≠ ls := fun h hc => led_ne N12 h hlsB hc
        have hmkC := hk13 _ hmkB (hlm hmkB (by intro h; cases h))
        have hdmC := hk13 _ hdmB (hlm hdmB (by intro h; exact absurd (Value.type.inj h) (by decide)))
        have htC : LenTab led13 := htB.keep (htB.ne N12 hlsB (by intro h; cases h)) hk13
        have htC2 : StrTab led13 := htB2.keep (htB2.ne N12 hlsB (by intro h; cases h)) hk13
        have hDl : D ≠ ls := Ne.symm (Nat.ne_of_lt (l11 _ (.tail _ d3)))
        have hDC := hk13 _ hDB hDl
        have hPC : PairL led13 bs [p'] := hPB.grow fun b vs h => hk13 _ h (hlm h (by intro h; exact absurd (Value.type.inj h) (by decide)))
        have S12c := S12
        obtain ⟨n12, hsh12, tk12, u12, as12, hx12, hdx12, hl12, hp12⟩ := S12c
        have S13 : AccIs led13 x dx ps := S12.other N12 hlsB hlx (Ne.symm (hlm hdx12 (by intro h; exact absurd (Value.type.inj h) (by decide)))) (by intro h; exact absurd (Value.type.inj h) (by decide)) hk13
        have S13c := S13
        obtain ⟨n13, hsh13, tk13, u13, as13, hx13, hdx13, hl13, hp13⟩ := S13c
        have hpsz : ps.length < 2 ^ 10 := by omega
        k_steps
        refine Held.out ?_
        k_dflt (refine' resetC ?k1 ?k2 ?k3 ?k4 ?k5 ?kK S13 hDC hPC hpsz (by rw [List.length_singleton]; decide) ?kd ?ku ?_; (case k1 => k_asm); (case k2 => k_asm); (case k3 => k_asm); (case k4 => k_asm); (case k5 => k_asm); (case kK => first | exact rfl | assumption); (case kd => ktr_room); (case ku => first | ktr_units | (show un + 1 + 150 < cLine; ktr_units) | (show un + 1 + 3 + 150 < cLine; ktr_units)))
        intro s14 led14 F14 N14 G14 S14 hk14
        k_steps
        have hch : chunk lines ps p' = (lines ++ [catS ps], [p']) := by unfold chunk; rw [if_pos hcl]
        have hmd : mk ≠ dx := led_ne N hmk hdx (by intro h; cases h)
        have hdd : dm ≠ dx := dm_ne N hdm hdx
        have hld : ls ≠ dx := led_ne N hls hdx (by intro h; exact absurd (Value.type.inj h) (by decide))
        have kx1 : 175 ≠ x := ht.ne N hx (by intro h; cases h)
        have kx2 : 182 ≠ x := ht2.ne N hx (by intro h; cases h)
        have kd1 : 175 ≠ dx := ht.ne N hdx (by intro h; cases h)
        have kd2 : 182 ≠ dx := ht2.ne N hdx (by intro h; cases h)
        refine hret s14 led14 (by k_asm) (by k_asm) (A12.trans ((Goes.same _ _).trans G14)) ?_ (htC.mono fun o h => hk14 _ h kx1 kd1) (htC2.mono fun o h => hk14 _ h kx2 kd2) fun p hp n1 n2 n3 n4 n5 => hk14 _ (hk13 _ (hk12 _ (hk11 _ (.tail _ (d7 p hp n1 n4)) n1) n5) n3) n1 n2
        rw [hch]
        exact ⟨q, _, _, hk14 _ hmkC hmx hmd, hk14 _ hdmC hdmx hdd, hk14 _ hm13 hlx hld, StrsAre.appendS hwl _ _, S14⟩
      · rename ((Txt.item r (-1) == Str.ofString ")") = false) => hnl
        rename Fr _ _ _ _ => Fb
        rename News _ _ _ _ => Nb
        refine ⟨G10.trans (Goes.same _ _), _, _, Fb, Nb, .head _, fun led'' h1 h2 => ⟨fun p hp => h1 p (.tail _ hp) (ho10 p hp), .cons rfl (.cons rfl .nil), fun j' hj' r' hr' => ?_⟩⟩
        by_cases e : j' = j
        · subst e
          rw [hr1] at hr'
          cases hr'
          exact hnl
        · exact hno j' (by omega) r' hr'
    · intro m10 led10 s10 hJ9 G10 F10 N10
      obtain ⟨hs10, hm10, hno⟩ := hJ9
      have hcl : closes ps = false := by
        unfold closes
        cases hq : ps.getLast? with
        | none => rfl
        | some q =>
          have hne : 0 < ps.length := by
            rcases Nat.eq_zero_or_pos ps.length with h | h
            · rw [List.length_eq_zero_iff.mp h] at hq; cases hq
            · exact h
          rw [List.getLast?_eq_getElem?] at hq
          exact hno 0 hne q hq
      k_steps
      refine ⟨G7.trans ((Goes.same _ _).trans (G9.trans ((Goes.same _ _).trans G10))), _, _, F10, N10, hs10 _ hI9, fun led'' h1 h2 => ⟨fun p hp => h1 p (hs10 p (hk9 _ (.tail _ hp))) (ho7 p hp), .cons (hm10.at rfl) .nil, .inr hcl⟩⟩
  · intro m7 led7 s7 hJ9 G7 F7 N7
    obtain ⟨hs7, hm7, hcl⟩ := hJ9
    have hcl := hcl.resolve_left (by decide)
    replace F7 : Fr g' L' s7.heap _ := fr_pins F7 hm7
    replace N7 : News g' L' s7.heap led6 := fun p hp => N7 p (hs7 p hp)
    clear hs7 led7
    k_steps
    refine Held.out ?_
    k_dflt (refine' popC hpr ?k1 ?k2 ?k3 ?k4 ?k5 ?kK S6 (by omega) ?kd ?ku ?_; (case k1 => k_asm); (case k2 => k_asm); (case k3 => k_asm); (case k4 => k_asm); (case k5 => k_asm); (case kK => first | exact rfl | assumption); (case kd => ktr_room); (case ku => first | ktr_units | (show un + 1 + 150 < cLine; ktr_units) | (show un + 1 + 3 + 150 < cLine; ktr_units)))
    intro s8 led8 b tb tb' F8 N8 G8 S8 hb8 hk8
    have S8c := S8
    obtain ⟨n8, hsh8, tk8, u8, as8, hx8, hdx8, hl8, hp8⟩ := S8c
    have hmk8 := hk8 _ hmk6 hmx
    have hdm8 := hk8 _ hdm6 hdmx
    have hls8 := hk8 _ hls6 hlx
    k_steps
    refine Held.out ?_
    k_dflt (refine' pushC ?k1 ?k2 ?k3 ?k4 ?k5 ?kK S8 (by omega) ?kd ?ku ?_; (case k1 => k_asm); (case k2 => k_asm); (case k3 => k_asm); (case k4 => k_asm); (case k5 => k_asm); (case kK => first | exact rfl | assumption); (case kd => ktr_room); (case ku => first | ktr_units | (show un + 1 + 150 < cLine; ktr_units) | (show un + 1 + 3 + 150 < cLine; ktr_units)))
    intro s9 led9 F9 N9 G9 S9 hk9
    have A6 : Goes s s6 := (Goes.same _ _).trans (G5.trans ((Goes.same _ _).trans G6))
    have A9 : Goes s s9 := A6.trans (((Goes.same _ _).trans G7).trans ((Goes.same _ _).trans (G8.trans ((Goes.same _ _).trans G9))))
    k_steps
    have kx1 : 175 ≠ x := ht.ne N hx (by intro h; cases h)
    have kx2 : 182 ≠ x := ht2.ne N hx (by intro h; cases h)
    have hch : chunk lines ps p' = (lines, ps ++ [p']) := by unfold chunk; rw [if_neg (by rw [hcl]; decide)]
    refine hret s9 led9 (by k_asm) (by k_asm) A9 ?_ (ht6.mono fun o h => hk9 _ (hk8 _ h kx1) kx1) (ht26.mono fun o h => hk9 _ (hk8 _ h kx2) kx2) fun p hp n1 n2 n3 n4 n5 => hk9 _ (hk8 _ (hk6 _ (hk5 _ hp n1) n4) n1) n1
    rw [hch]
    exact ⟨q, _, _, hk9 _ hmk8 hmx, hk9 _ hdm8 hdmx, hk9 _ hls8 hlx, hwl, S9⟩
end
end XChunk
section XNewl
set_option maxRecDepth 100000

example : True := by
  k_with_none
  trivial

example : True := by
  k_with "getMethod ref" => (k_here; k_dflt (refine' acc_methA ?wkF ?wkX ?wkN ?wkhx ?wkhdx ?_; (case wkF => k_asm); (case wkX => k_asm); (case wkN => k_asm); (case wkhx => k_mem); (case wkhdx => k_mem)))
  k_with "getMethod ref" => (k_here; k_dflt (refine' acc_meth ?wkF ?wkX ?wkN ?wkhx ?wkhdx ?wkhf ?wkht ?wkhn ?_; (case wkF => k_asm); (case wkX => k_asm); (case wkN => k_asm); (case wkhx => k_mem); (case wkhdx => k_mem); (case wkhf => k_is); (case wkht => k_is); (case wkhn => decide)))
  k_with "call builtin:list.append" => (k_here; k_dflt (refine' acc_app ?wkF ?wkX ?wkN ?wkhx ?wkhdx ?wkhz ?_; (case wkF => k_asm); (case wkX => k_asm); (case wkN => k_asm); (case wkhx => k_mem); (case wkhdx => k_mem); (case wkhz => omega)); intro _ _ _ _ _ _ _ _)
  k_with "call ref" => refine Held.mk ?_
  trivial
section
variable {prog : Program} {w : World} {p : Program} {loose : List Str} {mean : ExcName → Option Value} {mg mb : Str → Option Value}
set_option maxHeartbeats 4000000 in
theorem pushK {dp un : Nat} {gd : Option (List Code)} {cn : Str} {cs : Scope} {a : Addr} {ccd : Value} {cl : List (Str × Addr)} {outer : List Env} {A₀ : Around} {base h₀ : Heap} {L : Addr} {m : Str → Option Value} {s : Shared} {Q E : Value → Shared → Prop} {news : List (Addr × Obj)} {x dx : Addr} {ps : List Str} {tf tp : Tok} {p' : Str} {R : Result → Shared → Prop}
    (B : Below A₀ base outer h₀) (F : Fr h₀ L s.heap m) (X : (Mine.hd.heap_39 w.params).In h₀) (N : News h₀ L s.heap news) (T : Top p loose mean mg mb h₀) (hk : cs.kind = .function) (S : AccIs news x dx ps) (hz : ps.length < 2 ^ 16) (hd : dp + 20 < recursionLimit) (hu : un + 150 < cLine)
    (hret : ∀ s' led', Fr h₀ L s'.heap m → News h₀ L s'.heap led' → Goes s s' → AccIs led' x dx (ps ++ [p']) → (∀ q ∈ news, q.1 ≠ x → q ∈ led') → R (.ok (.ret .none)) s') :
    codeAny (model prog w) (ktrTop dp un gd cn cs L a ccd cl outer) (.call (.ref 157) ⟨[.ref x, .str Str.empty tf, .str p' tp], []⟩) R s := by
  obtain ⟨n, hsh, tk, u, as, hx, hdx, hl, hp⟩ := S
  have hz2 : (as.map Value.ref).length < 2 ^ 16 := by rw [List.length_map, hl]; exact hz
  k_dflt (refine' code_def ?k1 ?k2 ?k3 ?k4 ?k5 ?kA ?kF ?kK ?k6 ?k7 ?k8 ?k9 ?kB ?_ ?c2 ?c3 ?c4 ?c5; (case kA => exact rfl); (case kF => exact rfl); (case kK => first | assumption | exact rfl); (case k1 => k_asm); (case k2 => k_asm); (case k3 => k_asm); (case k4 => k_asm); (case k5 => k_asm); (case k6 => k_is); (case k7 => k_is); (case k8 => ktr_room); (case k9 => first | exact BindsTo.of_eq rfl | exact binds_K (by k_in) rfl (by k_is) rfl rfl rfl | (refine' kp_binds ?kx ?ke; (case kx => k_in); (case ke => exact fun _ => rfl)) | fail "x_enter: no rule for these arguments"); (case c5 => decide); (case kB => exact locs rfl); (case c2 => exact rfl); (case c3 => exact rfl); (case c4 => exact rfl); k_whole; intro g' L' h' FG' F' N' B' X' T'; (try dsimp only); (try k_lift B'); (try k_fold))
  k_steps
  rename_i _ T _ _ _ l1 _ led9 n9 _ _ hm9 hk9 _ _ _ _ _
  refine hret _ led9 (by k_asm) (by k_asm) (Goes.same _ _) ?_ fun q hq hn => hk9 _ (.tail _ hq) hn
  exact AccIs.pushed N hx hdx hl hp hm9 (hk9 _ (.head _) (Nat.ne_of_gt (l1 _ hx))) fun q hq hn => hk9 _ (.tail _ hq) hn
end
example : True := by
  k_with "call ref" => refine Held.mk ?_
  k_with "getAttr ref" => (k_here; k_dflt (refine' acc_size ?wkF ?wkX ?wkN ?wkhx ?wkhdx ?_; (case wkF => k_asm); (case wkX => k_asm); (case wkN => k_asm); (case wkhx => k_mem); (case wkhdx => k_mem)))
  k_with "getAttr ref" => (k_here; (with_reducible show wpAny _ _ (getAttr (Value.ref _) (PySem.Str.ofString "_current_line") _) _ _ _); k_dflt (refine' mk_cl ?wkF ?wkX ?wkN ?wkhmk ?wkhdm ?_; (case wkF => k_asm); (case wkX => k_asm); (case wkN => k_asm); (case wkhmk => k_mem); (case wkhdm => k_mem)))
  k_with "getAttr ref" => (k_here; (with_reducible show wpAny _ _ (getAttr (Value.ref _) (PySem.Str.ofString "_maxlen") _) _ _ _); k_dflt (refine' mk_ml ?wkF ?wkX ?wkN ?wkhmk ?wkhdm ?_; (case wkF => k_asm); (case wkX => k_asm); (case wkN => k_asm); (case wkhmk => k_mem); (case wkhdm => k_mem)))
  k_with "getAttr ref" => (k_here; (with_reducible show wpAny _ _ (getAttr (Value.ref _) (PySem.Str.ofString "_splitchars") _) _ _ _); k_dflt (refine' mk_sp ?wkF ?wkX ?wkN ?wkhmk ?wkhdm ?_; (case wkF => k_asm); (case wkX => k_asm); (case wkN => k_asm); (case wkhmk => k_mem); (case wkhdm => k_mem)))
  k_with "getAttr ref" => (k_here; (with_reducible show wpAny _ _ (getAttr (Value.ref _) (PySem.Str.ofString "_lines") _) _ _ _); k_dflt (refine' mk_ln ?wkF ?wkX ?wkN ?wkhmk ?wkhdm ?_; (case wkF => k_asm); (case wkX => k_asm); (case wkN => k_asm); (case wkhmk => k_mem); (case wkhdm => k_mem)))
  k_with "getAttr ref" => (k_here; (with_reducible show wpAny _ _ (getAttr (Value.ref _) (PySem.Str.ofString "_initial_size") _) _ _ _); k_dflt (refine' acc_size ?wkF ?wkX ?wkN ?wkhx ?wkhdx ?_; (case wkF => k_asm); (case wkX => k_asm); (case wkN => k_asm); (case wkhx => k_mem); (case wkhdx => k_mem)))
  k_with "call type:str" => refine Held.mk ?_
  k_with "pyIter ref" => refine Held.mk ?_
  k_with "pyIter str" => refine Held.mk ?_
  k_with "call builtin:len" => refine Held.mk ?_
  k_with "call builtin:list.append" => refine Held.mk ?_
  k_with "GPost" => dsimp only [GPost]
  k_with "getAttr ref" => (k_here; (with_reducible show wpAny _ _ (getAttr (Value.ref _) (PySem.Str.ofString "push") _) _ _ _); refine Held.mk ?_)
  k_with "compareOp NotEq ref ref" => refine Held.mk ?_
  trivial
section
open Builtin Builtin.ObjectAttr
variable {prog : Program} {w : World} {A : Around} {E : Value → Shared → Prop} {s : Shared} {K : Frag} {x C f dx L : Addr} {ox : Obj} {name : Str} {h₀ : Heap} {m : Str → Option Value} {news : List (Addr × Obj)}
theorem oga_bind {M : Model} {g a : Value} {tk : Tok} {od : Option Obj} {Q : Fin → Shared → Prop} (X : K.In s.heap) (I : W.InstAt s.heap x ox C od) (hf : findObj K C od name = some (.bind g a)) (h : wpAny M A (call g [a, .ref x, .ref C]) (fun v s' => Q (.done (.ret v)) s') E s) :
    wpAny M A (Builtin.«object.__getattribute__» ⟨[.ref x, .str name tk], []⟩) Q E s := by
  have L0 := I.type (M := M)
  have L3 := looks_find (M := M) X I hf
  unfold Builtin.«object.__getattribute__»
  refine wpAny_bind (wpAny_of_eq (a := (.ref x, [.str name tk])) rfl ?_)
  dsimp only
  refine wpAny_bind (wpAny_of_eq (a := name) rfl ?_)
  refine wpAny_bind (L0.here (wpAny_bind (L3.here ?_)))
  show wpAny _ _ (holding [a] (call g [a, .ref x, .ref C]) >>= ret) _ _ _
  exact wpAny_bind (wpAny_holding (wpAny_mono h (fun v s' z => wpAny_pure z) fun _ _ z => z))
set_option maxHeartbeats 1000000 in
theorem acc_bindAttr {expr : Bool} {g a : Value} {od : Option Obj} {Q : Value → Shared → Prop} (X : K.In s.heap) (hC : accCls K C = true) (I : W.InstAt s.heap x ox C od)
    (hga : findIn K (.ref C) "__getattribute__" = some (some (.builtin "list.__getattribute__"))) (hgn : findIn K (.ref C) "__getattr__" = some none)
    (hf : findObj K C od name = some (.bind g a)) (h : ∀ A, wpAny (model prog w) A (call g [a, .ref x, .ref C]) (fun v s' => handedIn v = true ∧ Q v s') (fun _ _ => False) { s with toks := s.toks + 1 }) : wpAny (model prog w) A (getAttr (.ref x) name expr) Q E s := by
  obtain ⟨hp, gs, d, t, os⟩ := s
  have L0 := I.type (M := model prog w)
  have L1 := looks_findIn (M := model prog w) X hga
  have L2 := looks_findIn (M := model prog w) X hgn
  unfold getAttr getAttrBy
  refine wpAny_bind (wpAny_mkText (wpAny_holding (wpAny_bind (L0.at (wpAny_bind (L1.at ?_))))))
  show wpAny _ _ (getAttrByItsOwn _ _ _ (.builtin "list.__getattribute__") _ _) _ _ _
  unfold getAttrByItsOwn
  refine wpAny_bind ?_
  show wpAny _ _ (typeLookup (.ref C) "__getattr__") _ _ _
  refine L2.at ?_
  refine wpAny_bind (wpAny_attempt (wpAny_holding ?_))
  unfold callGetattribute
  have e0 : (expr && onTheHeap (.builtin "list.__getattribute__")) = false := by cases expr <;> rfl
  rw [e0, if_neg (by decide)]
  unfold boundAndCalled
  refine wpAny_bind (wpAny_of_eq (PySem.F.slot_list_getattribute.bind _) ?_)
  refine call_acc (Q := fun v' s' => wpAny (model prog w) A (handedOut v') Q E s') X hC I (.inl lk_ga) ls_ga PySem.F.slot_list_getattribute.plain am_entry_list_getattribute (PySem.F.args_list_getattribute_2 _ _) ?_
  refine oga_bind X I hf (wpAny_mono (h _) (fun v s' z => ⟨v, rfl, ?_⟩) fun _ _ z => z)
  rw [handedOut_of z.1]; exact wpAny_pure z.2
end
section
variable {prog : Program} {w : World} {A : Around} {E : Value → Shared → Prop} {s : Shared} {x dx L : Addr} {h₀ : Heap} {m : Str → Option Value} {news : List (Addr × Obj)} {n : Nat} {its : Array Value} {hsh : Int} {tk u : Tok}
theorem acc_boundPush {expr : Bool} {Q : Value → Shared → Prop} (F : Fr h₀ L s.heap m) (X : (Mine.hd.heap_39 w.params).In h₀) (N : News h₀ L s.heap news) (hx : (x, accObj 213 dx its n) ∈ news) (hdx : (dx, accD hsh tk u) ∈ news)
    (h : ∀ q h', Fr h₀ L h' m → News h₀ L h' ((q, methodObj (.ref 157) (.ref x)) :: news) → (∀ p ∈ news, p.1 < q) → Q (.ref q) { s with heap := h', toks := s.toks + 1 }) : wpAny (model prog w) A (getAttr (.ref x) (Str.ofString "push") expr) Q E s := by
  have X1 := X.keeps F.keep
  refine acc_bindAttr X1 (accK _) (acc_inst F N hx hdx) (by kernel_rfl) (by kernel_rfl) (findObj_fn (f := 157) (g := .builtin "function.__get__") (by kernel_rfl) (by kernel_rfl) (by kernel_rfl) (by kernel_rfl) (by decide +kernel) (by rw [lookIn_dict]; rfl)) fun A => ?_
  exact wpAny_call (fn_get (s := { s with toks := s.toks + 1 }) X1 (by kernel_rfl) ⟨rfl, h _ _ (F.push _) (N.push F _) fun p hp => Heap.lt_size (N p hp).1⟩)
end
theorem methodStar_ {M : Model} {A : Around} {E : Value → Shared → Prop} {s : Shared} {env : Env} {o e : Expr} {name : Str} {apos pos sp : Pos} {Q : Value → Shared → Prop}
    (h : wpAny M A (eval o env) (fun ov s₁ => wpAny M A (getAttr ov name true) (fun f s₂ => wpAny M A (callWith pos f [] (backTo pos (starEach [.Starred e sp] env)) []) Q E s₂) E s₁) E s)
    (he : eval (.Call (.Attribute o name apos) [.Starred e sp] [] pos) env = (do
      let ov ← eval o env
      standAt apos.atName
      let (f, first) ← holding [ov] (do pure (← getAttr ov name true, []))
      callWith pos f first (backTo pos (starEach [.Starred e sp] env)) []) := by rfl) :
    wpAny M A (eval (.Call (.Attribute o name apos) [.Starred e sp] [] pos) env) Q E s := by
  rw [he]
  refine wpAny_bind (wpAny_mono h (fun ov s₁ h₁ => wpAny_bind (wpAny_standAt (wpAny_bind (wpAny_holding (wpAny_bind (wpAny_mono h₁ (fun fx s₂ h₂ => wpAny_pure ?_) fun _ _ x => x)))))) fun _ _ x => x)
  exact h₂
section
variable {M : Model} {A : Around} {E : Value → Shared → Prop} {s : Shared} {K : Frag} {env : Env} {pos p : Pos} {Q : Value → Shared → Prop} {e : Expr}
theorem callWith_MS {q g : Addr} {self : Value} (hf : fnIn K g = true) (h : wpAny M A (eval e env) (fun v s₁ => StarOf M A E v (fun vs s₂ => MethP K q g self s₂.heap ∧ wpAny M A (call (.ref q) ([] ++ vs)) Q E s₂) s₁) E s)
    (he : starEach [.Starred e p] env = [(true, eval e env)] := by rfl) :
    wpAny M A (callWith pos (.ref q) [] (backTo pos (starEach [.Starred e p] env)) []) Q E s := by
  rw [he]
  exact ks_call rfl (keeps_M hf) (ks_lone h)
end
theorem pair_ne {prog : Program} {w : World} {A : Around} {E : Value → Shared → Prop} {s : Shared} {b D L : Addr} {h₀ : Heap} {news : List (Addr × Obj)} {p' : Str} {t1 t2 t3 t4 : Tok} {Q : Value → Shared → Prop} (N : News h₀ L s.heap news)
    (hb : (b, tupO [.str Str.empty t1, .str p' t2]) ∈ news) (hD : (D, tupO [.str (Str.ofString " ") t3, .str (Str.ofString "") t4]) ∈ news) (hok : PyData.strOk p' = true) (hu : A.units + 64 < cLine) (h : Q (.bool true) s) : wpAny (model prog w) A (compareOp .NotEq (.ref b) (.ref D)) Q E s := by
  have ra := reads_tuple_at (N _ hb).1 rfl rfl (show ReadsAll s.heap [.str Str.empty t1, .str p' t2] _ _ from ReadsAll.cons (Reads.str _ _) (ReadsAll.cons (Reads.str _ _) ReadsAll.nil))
  have rb := reads_tuple_at (N _ hD).1 rfl rfl (show ReadsAll s.heap [.str (Str.ofString " ") t3, .str (Str.ofString "") t4] _ _ from ReadsAll.cons (Reads.str _ _) (ReadsAll.cons (Reads.str _ _) ReadsAll.nil))
  refine ne_dataH ra rb ?_ ?_ hu ?_
  · unfold SeqAt.shaped
    have : (PyData.tuple [.str Str.empty, .str p']).canLay0 = true := by
      simp only [PyData.canLay0, PyData.canLayAll0, hok, Bool.and_true]
      decide +kernel
    rw [this, Bool.true_and]
    exact decide_eq_true (by simp [PyData.depth, PyData.depthAll])
  · kernel_rfl
  · have : PyData.eqv (.tuple [.str Str.empty, .str p']) (.tuple [.str (Str.ofString " "), .str (Str.ofString "")]) = false := by
      simp only [PyData.eqv, PyData.eqvAll]
      have : (Str.empty == Str.ofString " ") = false := by decide +kernel
      simp [this]
    rw [this]
    exact h
section
variable {prog : Program} {w : World} {p : Program} {loose : List Str} {mean : ExcName → Option Value} {mg mb : Str → Option Value}
set_option maxHeartbeats 8000000 in
theorem newlineC (hpr : PrOk prog) {dp un : Nat} {gd : Option (List Code)} {cn : Str} {cs : Scope} {a : Addr} {ccd : Value} {cl : List (Str × Addr)} {outer : List Env} {A₀ : Around} {base h₀ : Heap} {L : Addr} {m : Str → Option Value} {s : Shared} {Q E : Value → Shared → Prop} {news : List (Addr × Obj)} {mk dm ls x dx : Addr} {lines ps : List Str} {p' : Str}
    (B : Below A₀ base outer h₀) (F : Fr h₀ L s.heap m) (X : (Mine.hd.heap_39 w.params).In h₀) (N : News h₀ L s.heap news) (T : Top p loose mean mg mb h₀) (hk : cs.kind = .function) (S : MkAt news mk dm ls x dx lines (ps ++ [p'])) (G : AllBare s.gens) (ht : LenTab news) (ht2 : StrTab news)
    (hz : ps.length < 2 ^ 8) (hz2 : ∀ q ∈ ps ++ [p'], 0 < q.length ∧ q.length < 2 ^ 8) (hzl : lines.length < 2 ^ 8) (hok : PyData.strOk p' = true) (hsp : Txt.isspace (catS (ps ++ [p'])) = false)
    (hd : dp + 60 < recursionLimit) (hu : un + 450 < cLine)
    (hret : ∀ s' led', Fr h₀ L s'.heap m → News h₀ L s'.heap led' → Goes s s' → MkAt led' mk dm ls x dx (lines ++ [catS (ps ++ [p'])]) [] → LenTab led' → StrTab led' → (∀ q ∈ news, q.1 ≠ x → q.1 ≠ dx → q.1 ≠ ls → q.1 ≠ 175 → q.1 ≠ 182 → q ∈ led') → Q .none s') :
    wpAny (model prog w) (ktrTop dp un gd cn cs L a ccd cl outer) (call (.ref 91) [.ref mk]) Q E s := by
  have S0 := S
  obtain ⟨q, wl, nl, hmk, hdm, hls, hwl, hac⟩ := S
  have hac0 := hac
  obtain ⟨n, hsh, tk, u, as, hx, hdx, hl, hp⟩ := hac
  refine wpAny_call ?_
  k_dflt (refine' code_def ?k1 ?k2 ?k3 ?k4 ?k5 ?kA ?kF ?kK ?k6 ?k7 ?k8 ?k9 ?kB ?_ ?c2 ?c3 ?c4 ?c5; (case kA => exact rfl); (case kF => exact rfl); (case kK => first | assumption | exact rfl); (case k1 => k_asm); (case k2 => k_asm); (case k3 => k_asm); (case k4 => k_asm); (case k5 => k_asm); (case k6 => k_is); (case k7 => k_is); (case k8 => ktr_room); (case k9 => first | exact BindsTo.of_eq rfl | exact binds_K (by k_in) rfl (by k_is) rfl rfl rfl | (refine' kp_binds ?kx ?ke; (case kx => k_in); (case ke => exact fun _ => rfl)) | fail "x_enter: no rule for these arguments"); (case c5 => decide); (case kB => exact locs rfl); (case c2 => exact rfl); (case c3 => exact rfl); (case c4 => exact rfl); k_whole; intro g' L' h' FG' F' N' B' X' T'; (try dsimp only); (try k_lift B'); (try k_fold))
  k_steps
  refine Held.out ?_
  k_dflt (refine' popC hpr ?k1 ?k2 ?k3 ?k4 ?k5 ?kK hac0 (by omega) ?kd ?ku ?_; (case k1 => k_asm); (case k2 => k_asm); (case k3 => k_asm); (case k4 => k_asm); (case k5 => k_asm); (case kK => first | exact rfl | assumption); (case kd => ktr_room); (case ku => first | ktr_units | (show un + 1 + 150 < cLine; ktr_units) | (show un + 1 + 3 + 150 < cLine; ktr_units)))
  intro s8 led8 b tb tb' F8 N8 G8 S8 hb8 hk8
  have S8c := S8
  obtain ⟨n8, hsh8, tk8, u8, as8, hx8, hdx8, hl8, hp8⟩ := S8c
  have hmx : mk ≠ x := led_ne N hmk hx (by intro h; cases h)
  have hdmx : dm ≠ x := led_ne N hdm hx (by intro h; cases h)
  have hlx : ls ≠ x := led_ne N hls hx (by intro h; cases h)
  have hmk8 := hk8 _ hmk hmx
  have hdm8 := hk8 _ hdm hdmx
  have hls8 := hk8 _ hls hlx
  k_steps
  rename Fr _ _ _ _ => F9
  rename News _ _ _ _ => N9
  refine Held.out ?_
  k_here
  refine pair_ne N9 (.tail _ hb8) (.head _) hok (by ktr_units) ?_
  k_steps
  k_here
  refine methodStar_ ?_
  k_steps
  refine Held.out ?_
  k_here
  refine acc_boundPush (by assumption) X' (by assumption) (.tail _ hx8) (.tail _ hdx8) ?_
  intro qm hm9 Fm Nm lm
  k_here
  refine callWith_MS (K := Mine.hd.heap_39 w.params) (g := 157) (self := .ref x) (by k_is) ?_
  k_steps
  rename Fr _ _ _ _ => Fs
  rename News _ _ _ _ => Ns
  refine Held.out ?_
  k_here
  refine wpAny_call (method_call (Ns _ (.head _)).1 ?_)
  replace Ns : News g' L' _ led8 := fun p hp => Ns p (.tail _ (.tail _ hp))
  k_dflt (refine' pushK (Q := fun _ _ => True) (E := fun _ _ => True) ?k1 ?k2 ?k3 ?k4 ?k5 ?kK S8 (by omega) ?kd ?ku ?_; (case k1 => k_asm); (case k2 => k_asm); (case k3 => k_asm); (case k4 => k_asm); (case k5 => k_asm); (case kK => first | exact rfl | assumption); (case kd => ktr_room); (case ku => first | ktr_units | (show un + 1 + 150 < cLine; ktr_units) | (show un + 1 + 3 + 150 < cLine; ktr_units)))
  intro s9 led9 F9' N9' G9 S9 hk9
  have S9c := S9
  obtain ⟨n9, hsh9, tk9, u9, as9, hx9, hdx9, hl9, hp9⟩ := S9c
  have hmk9 := hk9 _ hmk8 hmx
  have hdm9 := hk9 _ hdm8 hdmx
  have hls9 := hk9 _ hls8 hlx
  have kx1 : 175 ≠ x := ht.ne N hx (by intro h; cases h)
  have kx2 : 182 ≠ x := ht2.ne N hx (by intro h; cases h)
  have ht9 : LenTab led9 := ht.mono fun o h => hk9 _ (hk8 _ h kx1) kx1
  have ht92 : StrTab led9 := ht2.mono fun o h => hk9 _ (hk8 _ h kx2) kx2
  have A8 : Goes s s8 := (Goes.same _ _).trans G8
  have A9 : Goes s s9 := A8.trans ((Goes.same _ _).trans G9)
  have hpl : (ps ++ [p']).length < 2 ^ 9 := by rw [List.length_append, List.length_singleton]; omega
  have hall : ∀ q ∈ ps ++ [p'], q.length < 2 ^ 9 := fun q hq => by have := (hz2 q hq).2; omega
  have hp1 := (hz2 p' (List.mem_append_right _ (.head _))).1
  have hpos : 0 < lenS (ps ++ [p']) := by
    show 0 < ((ps ++ [p']).map (·.length)).sum
    rw [List.map_append, List.sum_append]
    show 0 < _ + (p'.length + 0)
    omega
  k_steps
  refine Held.out ?_
  k_here
  k_dflt (refine' lenB ?k1 ?k2 ?k3 ?k4 ?k5 ?kK S9 (A9.1 G) ht9 hpl hall ?kd ?ku ?_; (case k1 => k_asm); (case k2 => k_asm); (case k3 => k_asm); (case k4 => k_asm); (case k5 => k_asm); (case kK => first | exact rfl | assumption); (case kd => ktr_room); (case ku => first | ktr_units | (show un + 1 + 150 < cLine; ktr_units) | (show un + 1 + 3 + 150 < cLine; ktr_units)))
  intro s10 led10 t10 F10 N10 G10 ht10 S10 hk10
  have h175 : ∀ {b : Addr} {o : Obj}, (b, o) ∈ led9 → o.cls ≠ .none → b ≠ 175 := fun h hc => Ne.symm (ht9.ne N9' h hc)
  have hmk10 := hk10 _ hmk9 (h175 hmk9 (by intro h; cases h))
  have hdm10 := hk10 _ hdm9 (h175 hdm9 (by intro h; cases h))
  have hls10 := hk10 _ hls9 (h175 hls9 (by intro h; cases h))
  have ht102 : StrTab led10 := ht92.keep (by decide) hk10
  have A10 : Goes s s10 := A9.trans ((Goes.same _ _).trans G10)
  have S10c := S10
  obtain ⟨n10, hsh10, tk10, u10, as10, hx10, hdx10, hl10, hp10⟩ := S10c
  k_steps
  refine Held.out ?_
  k_here
  k_dflt (refine' onlywsC ?k1 ?k2 ?k3 ?k4 ?k5 ?kK S10 (A10.1 G) ht10 ht102 hpl hall hpos hsp ?kd ?ku ?_; (case k1 => k_asm); (case k2 => k_asm); (case k3 => k_asm); (case k4 => k_asm); (case k5 => k_asm); (case kK => first | exact rfl | assumption); (case kd => ktr_room); (case ku => first | ktr_units | (show un + 1 + 150 < cLine; ktr_units) | (show un + 1 + 3 + 150 < cLine; ktr_units)))
  intro s11 led11 F11 N11 G11 ht11 ht112 hk11
  have g175 : ∀ {b : Addr} {o : Obj}, (b, o) ∈ led10 → o.cls ≠ .none → b ≠ 175 := fun h hc => Ne.symm (ht10.ne N10 h hc)
  have g182 : ∀ {b : Addr} {o : Obj}, (b, o) ∈ led10 → o.cls ≠ .none → b ≠ 182 := fun h hc => Ne.symm (ht102.ne N10 h hc)
  have hmk11 := hk11 _ hmk10 (g175 hmk10 (by intro h; cases h)) (g182 hmk10 (by intro h; cases h))
  have hdm11 := hk11 _ hdm10 (g175 hdm10 (by intro h; cases h)) (g182 hdm10 (by intro h; cases h))
  have hls11 := hk11 _ hls10 (g175 hls10 (by intro h; cases h)) (g182 hls10 (by intro h; cases h))
  have S11 : AccIs led11 x dx (ps ++ [p']) := ⟨n10, hsh10, tk10, u10, as10, hk11 _ hx10 (g175 hx10 (by intro h; cases h)) (g182 hx10 (by intro h; cases h)), hk11 _ hdx10 (g175 hdx10 (by intro h; cases h)) (g182 hdx10 (by intro h; cases h)), hl10, fun i b p hb hq => let ⟨t, t', h⟩ := hp10 i b p hb hq; ⟨t, t', hk11 _ h (g175 h (by intro h; cases h)) (g182 h (by intro h; cases h))⟩⟩
  have A11 : Goes s s11 := A10.trans ((Goes.same _ _).trans G11)
  have S11c := S11
  obtain ⟨n11, hsh11, tk11, u11, as11, hx11, hdx11, hl11, hp11⟩ := S11c
  have hwlz : wl.length < 2 ^ 20 := by have := hwl.length; omega
  k_steps
  rename Fr _ _ _ _ => Fc
  rename News _ _ _ _ => Nc
  refine Held.out ?_
  k_here
  k_dflt (refine' strB ?k1 ?k2 ?k3 ?k4 ?k5 ?kK S11 (A11.1 G) ht112 hpl hall ?kd ?ku ?_; (case k1 => k_asm); (case k2 => k_asm); (case k3 => k_asm); (case k4 => k_asm); (case k5 => k_asm); (case kK => first | exact rfl | assumption); (case kd => ktr_room); (case ku => first | ktr_units | (show un + 1 + 150 < cLine; ktr_units) | (show un + 1 + 3 + 150 < cLine; ktr_units)))
  intro s12 led12 t12 F12 N12 G12 ht122 S12 hk12
  have e182 : ∀ {b : Addr} {o : Obj}, (b, o) ∈ led11 → o.cls ≠ .none → b ≠ 182 := fun h hc => Ne.symm (ht112.ne Nc h hc)
  have hmk12 := hk12 _ hmk11 (e182 hmk11 (by intro h; cases h))
  have hdm12 := hk12 _ hdm11 (e182 hdm11 (by intro h; cases h))
  have hls12 := hk12 _ hls11 (e182 hls11 (by intro h; cases h))
  have ht12 : LenTab led12 := ht11.keep (by decide) hk12
  have A12 : Goes s s12 := A11.trans ((Goes.same _ _).trans G12)
  k_steps
  refine Held.out ?_
  k_here
  refine append_ws F12 N12 hls12 hwlz ?_
  intro h13 led13 F13 N13 hm13 hk13 ha13
  have hlm : ∀ {b : Addr} {o : Obj}, (b, o) ∈ led12 → o.cls ≠ .type "list" → b ≠ ls := fun h hc => led_ne N12 h hls12 hc
  have hmk13 := hk13 _ hmk12 (hlm hmk12 (by intro h; cases h))
  have hdm13 := hk13 _ hdm12 (hlm hdm12 (by intro h; exact absurd (Value.type.inj h) (by decide)))
  have hl175 : 175 ≠ ls := ht12.ne N12 hls12 (by intro h; cases h)
  have hl182 : 182 ≠ ls := ht122.ne N12 hls12 (by intro h; cases h)
  have S12c := S12
  obtain ⟨n12, hsh12, tk12, u12, as12, hx12, hdx12, hl12, hp12⟩ := S12c
  have hld : ls ≠ dx := led_ne N12 hls12 hdx12 (by intro h; exact absurd (Value.type.inj h) (by decide))
  have S13 : AccIs led13 x dx (ps ++ [p']) := S12.other N12 hls12 hlx hld (by intro h; exact absurd (Value.type.inj h) (by decide)) hk13
  have S13c := S13
  obtain ⟨n13, hsh13, tk13, u13, as13, hx13, hdx13, hl13, hp13⟩ := S13c
  have hpsz : (ps ++ [p']).length < 2 ^ 10 := by omega
  k_steps
  refine Held.out ?_
  k_dflt (refine' resetNC ?k1 ?k2 ?k3 ?k4 ?k5 ?kK S13 hpsz ?kd ?ku ?_; (case k1 => k_asm); (case k2 => k_asm); (case k3 => k_asm); (case k4 => k_asm); (case k5 => k_asm); (case kK => first | exact rfl | assumption); (case kd => ktr_room); (case ku => first | ktr_units | (show un + 1 + 150 < cLine; ktr_units) | (show un + 1 + 3 + 150 < cLine; ktr_units)))
  intro s14 led14 F14 N14 G14 S14 hk14
  k_steps
  have hmd : mk ≠ dx := led_ne N hmk hdx (by intro h; cases h)
  have hdd : dm ≠ dx := dm_ne N hdm hdx
  have kd1 : 175 ≠ dx := ht.ne N hdx (by intro h; cases h)
  have kd2 : 182 ≠ dx := ht2.ne N hdx (by intro h; cases h)
  refine hret s14 led14 (by k_asm) (by k_asm) (A12.trans ((Goes.same _ _).trans G14)) ?_ (ht12.mono fun o h => hk14 _ (hk13 _ h hl175) kx1 kd1) (ht122.mono fun o h => hk14 _ (hk13 _ h hl182) kx2 kd2) fun p hp n1 n2 n3 n4 n5 => hk14 _ (hk13 _ (hk12 _ (hk11 _ (hk10 _ (hk9 _ (hk8 _ hp n1) n1) n4) n4 n5) n5) n3) n1 n2
  exact ⟨q, _, _, hk14 _ hmk13 hmx hmd, hk14 _ hdm13 hdmx hdd, hk14 _ hm13 hlx hld, StrsAre.appendS hwl _ _, S14⟩
end
end XNewl
section XMstr
set_option maxRecDepth 100000

example : True := by
  k_with_none
  trivial

example : True := by
  k_with "getMethod ref" => (k_here; k_dflt (refine' acc_methA ?wkF ?wkX ?wkN ?wkhx ?wkhdx ?_; (case wkF => k_asm); (case wkX => k_asm); (case wkN => k_asm); (case wkhx => k_mem); (case wkhdx => k_mem)))
  k_with "getMethod ref" => (k_here; k_dflt (refine' acc_meth ?wkF ?wkX ?wkN ?wkhx ?wkhdx ?wkhf ?wkht ?wkhn ?_; (case wkF => k_asm); (case wkX => k_asm); (case wkN => k_asm); (case wkhx => k_mem); (case wkhdx => k_mem); (case wkhf => k_is); (case wkht => k_is); (case wkhn => decide)))
  k_with "call builtin:list.append" => (k_here; k_dflt (refine' acc_app ?wkF ?wkX ?wkN ?wkhx ?wkhdx ?wkhz ?_; (case wkF => k_asm); (case wkX => k_asm); (case wkN => k_asm); (case wkhx => k_mem); (case wkhdx => k_mem); (case wkhz => omega)); intro _ _ _ _ _ _ _ _)
  k_with "call ref" => refine Held.mk ?_
  k_with "getAttr ref" => (k_here; k_dflt (refine' acc_size ?wkF ?wkX ?wkN ?wkhx ?wkhdx ?_; (case wkF => k_asm); (case wkX => k_asm); (case wkN => k_asm); (case wkhx => k_mem); (case wkhdx => k_mem)))
  k_with "getAttr ref" => (k_here; (with_reducible show wpAny _ _ (getAttr (Value.ref _) (PySem.Str.ofString "_current_line") _) _ _ _); k_dflt (refine' mk_cl ?wkF ?wkX ?wkN ?wkhmk ?wkhdm ?_; (case wkF => k_asm); (case wkX => k_asm); (case wkN => k_asm); (case wkhmk => k_mem); (case wkhdm => k_mem)))
  k_with "getAttr ref" => (k_here; (with_reducible show wpAny _ _ (getAttr (Value.ref _) (PySem.Str.ofString "_maxlen") _) _ _ _); k_dflt (refine' mk_ml ?wkF ?wkX ?wkN ?wkhmk ?wkhdm ?_; (case wkF => k_asm); (case wkX => k_asm); (case wkN => k_asm); (case wkhmk => k_mem); (case wkhdm => k_mem)))
  k_with "getAttr ref" => (k_here; (with_reducible show wpAny _ _ (getAttr (Value.ref _) (PySem.Str.ofString "_splitchars") _) _ _ _); k_dflt (refine' mk_sp ?wkF ?wkX ?wkN ?wkhmk ?wkhdm ?_; (case wkF => k_asm); (case wkX => k_asm); (case wkN => k_asm); (case wkhmk => k_mem); (case wkhdm => k_mem)))
  k_with "getAttr ref" => (k_here; (with_reducible show wpAny _ _ (getAttr (Value.ref _) (PySem.Str.ofString "_lines") _) _ _ _); k_dflt (refine' mk_ln ?wkF ?wkX ?wkN ?wkhmk ?wkhdm ?_; (case wkF => k_asm); (case wkX => k_asm); (case wkN => k_asm); (case wkhmk => k_mem); (case wkhdm => k_mem)))
  k_with "getAttr ref" => (k_here; (with_reducible show wpAny _ _ (getAttr (Value.ref _) (PySem.Str.ofString "_initial_size") _) _ _ _); k_dflt (refine' acc_size ?wkF ?wkX ?wkN ?wkhx ?wkhdx ?_; (case wkF => k_asm); (case wkX => k_asm); (case wkN => k_asm); (case wkhx => k_mem); (case wkhdx => k_mem)))
  k_with "call type:str" => refine Held.mk ?_
  k_with "pyIter ref" => refine Held.mk ?_
  k_with "pyIter str" => refine Held.mk ?_
  k_with "call builtin:len" => refine Held.mk ?_
  k_with "call builtin:list.append" => refine Held.mk ?_
  k_with "GPost" => dsimp only [GPost]
  k_with "getMethod ref" => (k_here; (with_reducible show wpAny _ _ (getMethod (Value.ref _) (PySem.Str.ofString "newline") _) _ _ _); refine Held.mk ?_)
  k_with "call builtin:str.join" => refine Held.mk ?_
  trivial
theorem strsAre_values : ∀ {vs : List Value} {ss : List Str}, StrsAre vs ss → ∃ l : List (Str × Tok), vs = strValues l ∧ l.map (·.1) = ss
  | _, _, .nil => ⟨[], rfl, rfl⟩
  | _, _, .cons x t r => by
    obtain ⟨l, h1, h2⟩ := strsAre_values r
    exact ⟨(x, t) :: l, by rw [h1]; rfl, by rw [List.map_cons, h2]⟩
section
variable {prog : Program} {w : World} {p : Program} {loose : List Str} {mean : ExcName → Option Value} {mg mb : Str → Option Value}
set_option maxHeartbeats 8000000 in
theorem strMC (hpr : PrOk prog) {dp un : Nat} {gd : Option (List Code)} {cn : Str} {cs : Scope} {a : Addr} {ccd : Value} {cl : List (Str × Addr)} {outer : List Env} {A₀ : Around} {base h₀ : Heap} {L : Addr} {m : Str → Option Value} {s : Shared} {Q E : Value → Shared → Prop} {news : List (Addr × Obj)} {mk dm ls x dx : Addr} {lines ps : List Str} {p' : Str} {tn : Tok}
    (B : Below A₀ base outer h₀) (F : Fr h₀ L s.heap m) (X : (Mine.hd.heap_39 w.params).In h₀) (N : News h₀ L s.heap news) (T : Top p loose mean mg mb h₀) (hk : cs.kind = .function) (S : MkAt news mk dm ls x dx lines (ps ++ [p'])) (G : AllBare s.gens) (ht : LenTab news) (ht2 : StrTab news)
    (hz : ps.length < 2 ^ 8) (hz2 : ∀ q ∈ ps ++ [p'], 0 < q.length ∧ q.length < 2 ^ 8) (hzl : lines.length < 2 ^ 8) (hzs : ∀ q ∈ lines, q.length < 2 ^ 14) (hok : PyData.strOk p' = true) (hsp : Txt.isspace (catS (ps ++ [p'])) = false)
    (hd : dp + 80 < recursionLimit) (hu : un + 600 < cLine)
    (hret : ∀ s' led' t, Fr h₀ L s'.heap m → News h₀ L s'.heap led' → Goes s s' → LenTab led' → StrTab led' → (∀ q ∈ news, q.1 ≠ x → q.1 ≠ dx → q.1 ≠ ls → q.1 ≠ 175 → q.1 ≠ 182 → q ∈ led') → Q (.str (Txt.join (Str.ofString "\n") (lines ++ [catS (ps ++ [p'])])) t) s') :
    wpAny (model prog w) (ktrTop dp un gd cn cs L a ccd cl outer) (call (.ref 77) [.ref mk, .str (Str.ofString "\n") tn]) Q E s := by
  have S0 := S
  obtain ⟨q, wl, nl, hmk, hdm, hls, hwl, hac⟩ := S
  refine wpAny_call ?_
  k_dflt (refine' code_def ?k1 ?k2 ?k3 ?k4 ?k5 ?kA ?kF ?kK ?k6 ?k7 ?k8 ?k9 ?kB ?_ ?c2 ?c3 ?c4 ?c5; (case kA => exact rfl); (case kF => exact rfl); (case kK => first | assumption | exact rfl); (case k1 => k_asm); (case k2 => k_asm); (case k3 => k_asm); (case k4 => k_asm); (case k5 => k_asm); (case k6 => k_is); (case k7 => k_is); (case k8 => ktr_room); (case k9 => first | exact BindsTo.of_eq rfl | exact binds_K (by k_in) rfl (by k_is) rfl rfl rfl | (refine' kp_binds ?kx ?ke; (case kx => k_in); (case ke => exact fun _ => rfl)) | fail "x_enter: no rule for these arguments"); (case c5 => decide); (case kB => exact locs rfl); (case c2 => exact rfl); (case c3 => exact rfl); (case c4 => exact rfl); k_whole; intro g' L' h' FG' F' N' B' X' T'; (try dsimp only); (try k_lift B'); (try k_fold))
  k_steps
  refine Held.out ?_
  k_here
  refine method_inst (by k_asm) X' (InstAt.of_news N' hmk hdm) (f := 91) (by k_is) (by k_is) (by k_is) (by kernel_rfl) ?_
  k_steps
  refine Held.out ?_
  k_dflt (refine' newlineC hpr ?k1 ?k2 ?k3 ?k4 ?k5 ?kK S0 G ht ht2 hz hz2 hzl hok hsp ?kd ?ku ?_; (case k1 => k_asm); (case k2 => k_asm); (case k3 => k_asm); (case k4 => k_asm); (case k5 => k_asm); (case kK => first | exact rfl | assumption); (case kd => ktr_room); (case ku => first | ktr_units | (show un + 1 + 150 < cLine; ktr_units) | (show un + 1 + 3 + 150 < cLine; ktr_units)))
  intro s5 led5 F5 N5 G5 S5 ht5 ht52 hk5
  obtain ⟨q5, wl5, nl5, hmk5, hdm5, hls5, hwl5, hac5⟩ := S5
  k_steps
  refine Held.out ?_
  k_here
  obtain ⟨l, rfl, hl⟩ := strsAre_values hwl5
  refine SC.join (News.isList (by k_asm) hls5) hl (joinOk_of ?_) ?_
  · rw [List.map_append, List.sum_append, List.length_append]
    have h1 := sum_le lines (k := 2 ^ 14) fun q hq => Nat.le_of_lt (hzs q hq)
    have h2 := sum_le (ps ++ [p']) (k := 2 ^ 8) fun q hq => Nat.le_of_lt (hz2 q hq).2
    rw [List.length_append, List.length_singleton] at h2
    have h3 : (catS (ps ++ [p'])).length = ((ps ++ [p']).map (·.length)).sum := catS_length _
    have h4 : (Str.ofString "\n").length = 1 := by decide +kernel
    rw [h4]
    simp only [List.map_cons, List.map_nil, List.sum_cons, List.sum_nil, List.length_singleton]
    omega
  intro t' k
  k_steps
  refine hret _ led5 _ (by k_asm) (by k_asm) (Goes.trans (Goes.same _ _) (G5.trans (Goes.same _ _))) ht5 ht52 hk5
end
end XMstr
section XSre
open PySem.Sre

namespace Rx
noncomputable def qc : Array Nat := #[14, 8, 1, 2, 4294967295, 1, 1, 34, 0, 16, 34, 28, 22, 0, 4294967295, 7, 11, 13, 7, 21, 16, 34, 16, 92, 0, 15, 8, 6, 16, 92, 2, 15, 2, 0, 1, 16, 34, 1]
theorem qs : qc.size = 38 := rfl
theorem w9 : qc.getD 9 0 = 16 := rfl
theorem w10 : qc.getD 10 0 = 34 := rfl
theorem w11 : qc.getD 11 0 = 28 := rfl
theorem w12 : qc.getD 12 0 = 22 := rfl
theorem w13 : qc.getD 13 0 = 0 := rfl
theorem w14 : qc.getD 14 0 = 4294967295 := rfl
theorem w15 : qc.getD 15 0 = 7 := rfl
theorem w16 : qc.getD 16 0 = 11 := rfl
theorem w17 : qc.getD 17 0 = 13 := rfl
theorem w18 : qc.getD 18 0 = 7 := rfl
theorem w25 : qc.getD 25 0 = 15 := rfl
theorem w26 : qc.getD 26 0 = 8 := rfl
theorem w27 : qc.getD 27 0 = 6 := rfl
theorem w28 : qc.getD 28 0 = 16 := rfl
theorem w29 : qc.getD 29 0 = 92 := rfl
theorem w30 : qc.getD 30 0 = 2 := rfl
theorem w31 : qc.getD 31 0 = 15 := rfl
theorem w32 : qc.getD 32 0 = 2 := rfl
theorem w33 : qc.getD 33 0 = 0 := rfl
theorem w34 : qc.getD 34 0 = 1 := rfl
theorem w35 : qc.getD 35 0 = 16 := rfl
theorem w36 : qc.getD 36 0 = 34 := rfl
theorem w37 : qc.getD 37 0 = 1 := rfl
theorem o1 : ops[1]? = some .SUCCESS := rfl
theorem o2 : ops[2]? = some .ANY := rfl
theorem o7 : ops[7]? = some .BRANCH := rfl
theorem o13 : ops[13]? = some .IN := rfl
theorem o15 : ops[15]? = some .JUMP := rfl
theorem o16 : ops[16]? = some .LITERAL := rfl
theorem o28 : ops[28]? = some .POSSESSIVE_REPEAT := rfl
theorem accLit (i k c : Nat) (σ : Sre.Seen) (h : qc.getD i 0 = 16) (h' : qc.getD (i + 1) 0 = k) : accepts qc i c σ = .ok (c == k, σ) := by
  unfold accepts; rw [h, o16, h']
theorem acc30 (c : Nat) (σ : Sre.Seen) : accepts qc 30 c σ = .ok (c != 10, σ) := by
  unfold accepts; rw [w30, o2]
theorem acc17 (c : Nat) (σ : Sre.Seen) : ∃ σ', accepts qc 17 c σ = .ok (c != 34 && c != 92, σ') := by
  by_cases h1 : c = 34
  · subst h1; exact ⟨_, rfl⟩
  · by_cases h2 : c = 92
    · subst h2; exact ⟨_, rfl⟩
    · have e1 : (c == 34) = false := by simpa using h1
      have e2 : (c == 92) = false := by simpa using h2
      have : (c != 34 && c != 92) = true := by simp [h1, h2]
      rw [this]
      refine ⟨((((σ.add 21).add 16).add 16).add 0), ?_⟩
      show inSet qc c 38 19 true σ = _
      have n21 : qc.getD 19 0 = 21 := rfl
      unfold inSet
      show inSet qc c 37 20 false _ = _
      unfold inSet
      show (if (c == 34) = true then _ else inSet qc c 36 22 false _) = _
      rw [e1, if_neg (by decide)]
      unfold inSet
      show (if (c == 92) = true then _ else inSet qc c 35 24 false _) = _
      rw [e2, if_neg (by decide)]
      unfold inSet
      rfl
noncomputable def Reach (c : Nat) (m m' : Sre.M) : Prop := ∃ k, k ≤ c ∧ ∀ n, M.runFor (k + n) m = M.runFor n m'
theorem Reach.trans {x y : Nat} {a b c : Sre.M} (h1 : Reach x a b) (h2 : Reach y b c) : Reach (x + y) a c := by
  obtain ⟨k, l1, h1⟩ := h1
  obtain ⟨j, l2, h2⟩ := h2
  exact ⟨k + j, by omega, fun n => by rw [Nat.add_assoc, h1, h2]⟩
theorem Reach.le {x y : Nat} {a b : Sre.M} (h : Reach x a b) (l : x ≤ y) : Reach y a b := let ⟨k, l1, h1⟩ := h; ⟨k, Nat.le_trans l1 l, h1⟩
theorem Reach.refl (m : Sre.M) : Reach 0 m m := ⟨0, Nat.le_refl _, fun n => by rw [Nat.zero_add]⟩
theorem Reach.one {a b : Sre.M} (ho : a.outcome = none) (h : M.step a = b) : Reach 1 a b := ⟨1, Nat.le_refl _, fun n => by
  rw [Nat.add_comm]
  show (if a.outcome.isSome = true then a else M.runFor n a.step) = _
  rw [ho, h]
  rfl⟩
theorem Reach.step {x : Nat} {a b c : Sre.M} (ho : a.outcome = none) (h : M.step a = b) (r : Reach x b c) : Reach (x + 1) a c := ((Reach.one ho h).trans r).le (by omega)
section
variable {T : Array Nat} {lim s p k : Nat} {σ : Sre.Seen} {b : Bool}
noncomputable def att (T : Array Nat) (lim s : Nat) (σ : Sre.Seen) (b : Bool) : Sre.M :=
  { code := qc, text := T, lim := lim, start := s, lastStart := lim, pc := 9, pos := s, handed := s, outermost := b, marks := #[], frames := [{ wait := .nextStart, pc := 9, pos := s, outermost := b }], weight := 1, seen := σ }
noncomputable def bod (T : Array Nat) (lim s p : Nat) (k : Int) (σ : Sre.Seen) (b : Bool) : Sre.M :=
  { code := qc, text := T, lim := lim, start := s, lastStart := lim, pc := 15, pos := p, handed := p, outermost := false, marks := #[], loops := #[{ pc := 0, outer := none }], inner := some 0,
    frames := [{ wait := .possMore, pc := 11, pos := p, outermost := b, count := k, kept := { whole := true } }, { wait := .nextStart, pc := 9, pos := s, outermost := b }], weight := 2, seen := σ }
noncomputable def got (T : Array Nat) (lim s e : Nat) (σ : Sre.Seen) (b : Bool) : Sre.M :=
  { code := qc, text := T, lim := lim, start := s, lastStart := lim, pc := 9, pos := s, handed := e, outermost := b, marks := #[], weight := 0, seen := σ, outcome := some .matched, answer := some true }

theorem att_miss1 (h : T.getD s 0 ≠ 34 ∨ lim ≤ s) : ∃ σ', M.step (att T lim s σ b) = { att T lim s σ' b with answer := some false } := by
  by_cases hl : lim ≤ s
  · refine ⟨σ.add 16, ?_⟩
    simp only [M.step, att, bod, got, M.exec, M.word, M.say, M.possessive, M.attempt, M.frame, M.keep, M.alternative, M.putBack, M.resume, M.loopAt, itemWidth, qs, Nat.add_zero, Nat.reduceAdd, Nat.reduceLT, Nat.reduceGT, Option.isSome_none, Option.isSome_some, Bool.false_eq_true, if_false, if_true, gt_iff_lt, ge_iff_le, w9, w10, w11, w12, w13, w14, w15, w16, w17, w18, w25, w26, w27, w28, w29, w30, w31, w32, w33, w34, w35, w36, w37, o1, o2, o7, o13, o15, o16, o28, accLit 9 34 _ _ w9 w10, accLit 28 92 _ _ w28 w29, accLit 35 34 _ _ w35 w36, acc30, hl]
  · have h : T.getD s 0 ≠ 34 := h.resolve_right hl
    have e : (T.getD s 0 == 34) = false := by simpa using h
    refine ⟨σ.add 16, ?_⟩
    simp only [M.step, att, bod, got, M.exec, M.word, M.say, M.possessive, M.attempt, M.frame, M.keep, M.alternative, M.putBack, M.resume, M.loopAt, itemWidth, qs, Nat.add_zero, Nat.reduceAdd, Nat.reduceLT, Nat.reduceGT, Option.isSome_none, Option.isSome_some, Bool.false_eq_true, if_false, if_true, gt_iff_lt, ge_iff_le, w9, w10, w11, w12, w13, w14, w15, w16, w17, w18, w25, w26, w27, w28, w29, w30, w31, w32, w33, w34, w35, w36, w37, o1, o2, o7, o13, o15, o16, o28, accLit 9 34 _ _ w9 w10, accLit 28 92 _ _ w28 w29, accLit 35 34 _ _ w35 w36, acc30, hl, e]
theorem att_hit (h : T.getD s 0 = 34) (hl : s < lim) : ∃ σ', M.step (att T lim s σ b) = { att T lim s σ' b with pc := 11, pos := s + 1 } := by
  have hl' : ¬ lim ≤ s := by omega
  have e : (T.getD s 0 == 34) = true := by simpa using h
  refine ⟨σ.add 16, ?_⟩
  simp only [M.step, att, bod, got, M.exec, M.word, M.say, M.possessive, M.attempt, M.frame, M.keep, M.alternative, M.putBack, M.resume, M.loopAt, itemWidth, qs, Nat.add_zero, Nat.reduceAdd, Nat.reduceLT, Nat.reduceGT, Option.isSome_none, Option.isSome_some, Bool.false_eq_true, if_false, if_true, gt_iff_lt, ge_iff_le, w9, w10, w11, w12, w13, w14, w15, w16, w17, w18, w25, w26, w27, w28, w29, w30, w31, w32, w33, w34, w35, w36, w37, o1, o2, o7, o13, o15, o16, o28, accLit 9 34 _ _ w9 w10, accLit 28 92 _ _ w28 w29, accLit 35 34 _ _ w35 w36, acc30, hl', e]
theorem hit_poss : M.step { att T lim s σ b with pc := 11, pos := s + 1 } = bod T lim s (s + 1) 0 (σ.add 28) b := by
  simp only [M.step, att, bod, got, M.exec, M.word, M.say, M.possessive, M.attempt, M.frame, M.keep, M.alternative, M.putBack, M.resume, M.loopAt, itemWidth, qs, Nat.add_zero, Nat.reduceAdd, Nat.reduceLT, Nat.reduceGT, Option.isSome_none, Option.isSome_some, Bool.false_eq_true, if_false, if_true, gt_iff_lt, ge_iff_le, w9, w10, w11, w12, w13, w14, w15, w16, w17, w18, w25, w26, w27, w28, w29, w30, w31, w32, w33, w34, w35, w36, w37, o1, o2, o7, o13, o15, o16, o28, accLit 9 34 _ _ w9 w10, accLit 28 92 _ _ w28 w29, accLit 35 34 _ _ w35 w36, acc30, Nat.add_zero]
  have e : ((none : Option Nat) != some (s + 1)) = true := rfl
  simp only [e, Bool.and_true, maxRepeat]
  rfl
noncomputable def bodA (T : Array Nat) (lim s p : Nat) (k : Int) (σ : Sre.Seen) (b : Bool) (pc q j : Nat) : Sre.M :=
  { bod T lim s p k σ b with pc := pc, pos := q, frames := { wait := .nextBranch, pc := j, pos := p, outermost := false, kept := { whole := true } } :: (bod T lim s p k σ b).frames, weight := 3 }
variable {k : Int}
theorem bod_branch : M.step (bod T lim s p k σ b) = bodA T lim s p k (σ.add 7) b 17 p 16 := rfl
theorem bod_in_no (h : T.getD p 0 = 34 ∨ T.getD p 0 = 92) (hl : p < lim) : ∃ σ', M.step (bodA T lim s p k σ b 17 p 16) = { bodA T lim s p k σ' b 17 p 16 with answer := some false } := by
  have hl' : ¬ lim ≤ p := by omega
  obtain ⟨σ', h'⟩ := acc17 (T.getD p 0) (σ.add 13)
  have e : (T.getD p 0 != 34 && T.getD p 0 != 92) = false := by rcases h with h | h <;> rw [h] <;> rfl
  rw [e] at h'
  refine ⟨σ', ?_⟩
  simp only [M.step, att, bod, got, M.exec, M.word, M.say, M.possessive, M.attempt, M.frame, M.keep, M.alternative, M.putBack, M.resume, M.loopAt, itemWidth, qs, Nat.add_zero, Nat.reduceAdd, Nat.reduceLT, Nat.reduceGT, Option.isSome_none, Option.isSome_some, Bool.false_eq_true, if_false, if_true, gt_iff_lt, ge_iff_le, w9, w10, w11, w12, w13, w14, w15, w16, w17, w18, w25, w26, w27, w28, w29, w30, w31, w32, w33, w34, w35, w36, w37, o1, o2, o7, o13, o15, o16, o28, accLit 9 34 _ _ w9 w10, accLit 28 92 _ _ w28 w29, accLit 35 34 _ _ w35 w36, acc30, bodA, hl', h']
theorem bod_in_yes (h1 : T.getD p 0 ≠ 34) (h2 : T.getD p 0 ≠ 92) (hl : p < lim) : ∃ σ', M.step (bodA T lim s p k σ b 17 p 16) = bodA T lim s p k σ' b 25 (p + 1) 16 := by
  have hl' : ¬ lim ≤ p := by omega
  obtain ⟨σ', h'⟩ := acc17 (T.getD p 0) (σ.add 13)
  have e : (T.getD p 0 != 34 && T.getD p 0 != 92) = true := by rw [bne_iff_ne.mpr h1, bne_iff_ne.mpr h2]; rfl
  rw [e] at h'
  refine ⟨σ', ?_⟩
  simp only [M.step, att, bod, got, M.exec, M.word, M.say, M.possessive, M.attempt, M.frame, M.keep, M.alternative, M.putBack, M.resume, M.loopAt, itemWidth, qs, Nat.add_zero, Nat.reduceAdd, Nat.reduceLT, Nat.reduceGT, Option.isSome_none, Option.isSome_some, Bool.false_eq_true, if_false, if_true, gt_iff_lt, ge_iff_le, w9, w10, w11, w12, w13, w14, w15, w16, w17, w18, w25, w26, w27, w28, w29, w30, w31, w32, w33, w34, w35, w36, w37, o1, o2, o7, o13, o15, o16, o28, accLit 9 34 _ _ w9 w10, accLit 28 92 _ _ w28 w29, accLit 35 34 _ _ w35 w36, acc30, bodA, hl', h']
theorem bod_jump {q j : Nat} : M.step (bodA T lim s p k σ b 25 q j) = bodA T lim s p k (σ.add 15) b 34 q j := rfl
theorem bod_jump2 {q j : Nat} : M.step (bodA T lim s p k σ b 31 q j) = bodA T lim s p k (σ.add 15) b 34 q j := rfl
theorem bod_succ {q j : Nat} : M.step (bodA T lim s p k σ b 34 q j) = { bodA T lim s p k (σ.add 1) b 34 q j with handed := q, answer := some true } := rfl
theorem bod_back1 {q j : Nat} : M.step { bodA T lim s p k σ b 34 q j with handed := q, answer := some true } = { bod T lim s p k σ b with pc := j, pos := p, handed := q, answer := some true } := rfl
theorem bod_back2 {q j : Nat} (hq : p < q) (h0 : 0 ≤ k) (hk : k + 1 < 2 ^ 30) : M.step { bod T lim s p k σ b with pc := j, pos := p, handed := q, answer := some true } = bod T lim s q (k + 1) σ b := by
  have e : ((some p : Option Nat) != some q) = true := by simp; omega
  have e1 : ¬ (k + 1 < ((0 : Nat) : Int)) := by omega
  have e2 : ∀ c : Bool, (c || (4294967295 == maxRepeat)) = true := fun c => by cases c <;> rfl
  simp only [M.step, att, bod, got, M.exec, M.word, M.say, M.possessive, M.attempt, M.frame, M.keep, M.alternative, M.putBack, M.resume, M.loopAt, itemWidth, qs, Nat.add_zero, Nat.reduceAdd, Nat.reduceLT, Nat.reduceGT, Option.isSome_none, Option.isSome_some, Bool.false_eq_true, if_false, if_true, gt_iff_lt, ge_iff_le, w9, w10, w11, w12, w13, w14, w15, w16, w17, w18, w25, w26, w27, w28, w29, w30, w31, w32, w33, w34, w35, w36, w37, o1, o2, o7, o13, o15, o16, o28, accLit 9 34 _ _ w9 w10, accLit 28 92 _ _ w28 w29, accLit 35 34 _ _ w35 w36, acc30, e, e1, e2, Bool.and_true]
  rfl
theorem bod_alt2 : M.step { bodA T lim s p k σ b 17 p 16 with answer := some false } = bodA T lim s p k σ b 28 p 27 := rfl
theorem bod_lit_yes (h : T.getD p 0 = 92) (hl : p < lim) : M.step (bodA T lim s p k σ b 28 p 27) = bodA T lim s p k (σ.add 16) b 30 (p + 1) 27 := by
  have hl' : ¬ lim ≤ p := by omega
  have e : (T.getD p 0 == 92) = true := by simpa using h
  simp only [M.step, att, bod, got, M.exec, M.word, M.say, M.possessive, M.attempt, M.frame, M.keep, M.alternative, M.putBack, M.resume, M.loopAt, itemWidth, qs, Nat.add_zero, Nat.reduceAdd, Nat.reduceLT, Nat.reduceGT, Option.isSome_none, Option.isSome_some, Bool.false_eq_true, if_false, if_true, gt_iff_lt, ge_iff_le, w9, w10, w11, w12, w13, w14, w15, w16, w17, w18, w25, w26, w27, w28, w29, w30, w31, w32, w33, w34, w35, w36, w37, o1, o2, o7, o13, o15, o16, o28, accLit 9 34 _ _ w9 w10, accLit 28 92 _ _ w28 w29, accLit 35 34 _ _ w35 w36, acc30, bodA, hl', e]
theorem bod_lit_no (h : T.getD p 0 ≠ 92) (hl : p < lim) : M.step (bodA T lim s p k σ b 28 p 27) = { bodA T lim s p k (σ.add 16) b 28 p 27 with answer := some false } := by
  have hl' : ¬ lim ≤ p := by omega
  have e : (T.getD p 0 == 92) = false := by simpa using h
  simp only [M.step, att, bod, got, M.exec, M.word, M.say, M.possessive, M.attempt, M.frame, M.keep, M.alternative, M.putBack, M.resume, M.loopAt, itemWidth, qs, Nat.add_zero, Nat.reduceAdd, Nat.reduceLT, Nat.reduceGT, Option.isSome_none, Option.isSome_some, Bool.false_eq_true, if_false, if_true, gt_iff_lt, ge_iff_le, w9, w10, w11, w12, w13, w14, w15, w16, w17, w18, w25, w26, w27, w28, w29, w30, w31, w32, w33, w34, w35, w36, w37, o1, o2, o7, o13, o15, o16, o28, accLit 9 34 _ _ w9 w10, accLit 28 92 _ _ w28 w29, accLit 35 34 _ _ w35 w36, acc30, bodA, hl', e]
theorem bod_any (h : T.getD (p + 1) 0 ≠ 10) (hl : p + 1 < lim) : M.step (bodA T lim s p k σ b 30 (p + 1) 27) = bodA T lim s p k (σ.add 2) b 31 (p + 2) 27 := by
  have hl' : ¬ lim ≤ p + 1 := by omega
  have e : (T.getD (p + 1) 0 != 10) = true := by simpa using h
  simp only [M.step, att, bod, got, M.exec, M.word, M.say, M.possessive, M.attempt, M.frame, M.keep, M.alternative, M.putBack, M.resume, M.loopAt, itemWidth, qs, Nat.add_zero, Nat.reduceAdd, Nat.reduceLT, Nat.reduceGT, Option.isSome_none, Option.isSome_some, Bool.false_eq_true, if_false, if_true, gt_iff_lt, ge_iff_le, w9, w10, w11, w12, w13, w14, w15, w16, w17, w18, w25, w26, w27, w28, w29, w30, w31, w32, w33, w34, w35, w36, w37, o1, o2, o7, o13, o15, o16, o28, accLit 9 34 _ _ w9 w10, accLit 28 92 _ _ w28 w29, accLit 35 34 _ _ w35 w36, acc30, bodA, hl', e]
theorem bod_alt3 : M.step { bodA T lim s p k σ b 28 p 27 with answer := some false } = { bod T lim s p k σ b with pc := 27, answer := some false } := rfl
theorem bod_out (h0 : 0 ≤ k) : M.step { bod T lim s p k σ b with pc := 27, answer := some false } = { att T lim s σ b with pc := 35, pos := p, handed := p } := by
  have e : ((some p : Option Nat) != some p) = false := by simp
  have e1 : ¬ (k < ((0 : Nat) : Int)) := by omega
  simp only [M.step, att, bod, got, M.exec, M.word, M.say, M.possessive, M.attempt, M.frame, M.keep, M.alternative, M.putBack, M.resume, M.loopAt, itemWidth, qs, Nat.add_zero, Nat.reduceAdd, Nat.reduceLT, Nat.reduceGT, Option.isSome_none, Option.isSome_some, Bool.false_eq_true, if_false, if_true, gt_iff_lt, ge_iff_le, w9, w10, w11, w12, w13, w14, w15, w16, w17, w18, w25, w26, w27, w28, w29, w30, w31, w32, w33, w34, w35, w36, w37, o1, o2, o7, o13, o15, o16, o28, accLit 9 34 _ _ w9 w10, accLit 28 92 _ _ w28 w29, accLit 35 34 _ _ w35 w36, acc30, e, e1, Bool.and_false]
  rfl
theorem end_lit (h : T.getD p 0 = 34) (hl : p < lim) : M.step { att T lim s σ b with pc := 35, pos := p, handed := p } = { att T lim s (σ.add 16) b with pc := 37, pos := p + 1, handed := p } := by
  have hl' : ¬ lim ≤ p := by omega
  have e : (T.getD p 0 == 34) = true := by simpa using h
  simp only [M.step, att, bod, got, M.exec, M.word, M.say, M.possessive, M.attempt, M.frame, M.keep, M.alternative, M.putBack, M.resume, M.loopAt, itemWidth, qs, Nat.add_zero, Nat.reduceAdd, Nat.reduceLT, Nat.reduceGT, Option.isSome_none, Option.isSome_some, Bool.false_eq_true, if_false, if_true, gt_iff_lt, ge_iff_le, w9, w10, w11, w12, w13, w14, w15, w16, w17, w18, w25, w26, w27, w28, w29, w30, w31, w32, w33, w34, w35, w36, w37, o1, o2, o7, o13, o15, o16, o28, accLit 9 34 _ _ w9 w10, accLit 28 92 _ _ w28 w29, accLit 35 34 _ _ w35 w36, acc30, hl', e]
theorem end_succ {q : Nat} : M.step { att T lim s σ b with pc := 37, pos := q, handed := p } = { att T lim s (σ.add 1) b with pc := 37, pos := q, handed := q, answer := some true } := by
  simp only [M.step, att, bod, got, M.exec, M.word, M.say, M.possessive, M.attempt, M.frame, M.keep, M.alternative, M.putBack, M.resume, M.loopAt, itemWidth, qs, Nat.add_zero, Nat.reduceAdd, Nat.reduceLT, Nat.reduceGT, Option.isSome_none, Option.isSome_some, Bool.false_eq_true, if_false, if_true, gt_iff_lt, ge_iff_le, w9, w10, w11, w12, w13, w14, w15, w16, w17, w18, w25, w26, w27, w28, w29, w30, w31, w32, w33, w34, w35, w36, w37, o1, o2, o7, o13, o15, o16, o28, accLit 9 34 _ _ w9 w10, accLit 28 92 _ _ w28 w29, accLit 35 34 _ _ w35 w36, acc30, Bool.false_and, Bool.or_self, Bool.and_false]
theorem end_up {q : Nat} : M.step { att T lim s σ b with pc := 37, pos := q, handed := q, answer := some true } = { got T lim s q σ b with outcome := none } := rfl
theorem end_got {q : Nat} : M.step { got T lim s q σ b with outcome := none } = got T lim s q σ b := rfl
theorem one_plain (h1 : T.getD p 0 ≠ 34) (h2 : T.getD p 0 ≠ 92) (hl : p < lim) (h0 : 0 ≤ k) (hk : k + 1 < 2 ^ 30) : ∃ σ', Reach 6 (bod T lim s p k σ b) (bod T lim s (p + 1) (k + 1) σ' b) := by
  obtain ⟨σ1, e1⟩ := bod_in_yes (k := k) (s := s) (σ := σ.add 7) (b := b) h1 h2 hl
  exact ⟨_, .step rfl bod_branch (.step rfl e1 (.step rfl bod_jump (.step rfl bod_succ (.step rfl bod_back1 (.one rfl (bod_back2 (by omega) h0 hk))))))⟩
theorem one_back (h : T.getD p 0 = 92) (h2 : T.getD (p + 1) 0 ≠ 10) (hl : p + 1 < lim) (h0 : 0 ≤ k) (hk : k + 1 < 2 ^ 30) : ∃ σ', Reach 9 (bod T lim s p k σ b) (bod T lim s (p + 2) (k + 1) σ' b) := by
  obtain ⟨σ1, e1⟩ := bod_in_no (k := k) (s := s) (σ := σ.add 7) (b := b) (.inr h) (show p < lim by omega)
  exact ⟨_, .step rfl bod_branch (.step rfl e1 (.step rfl bod_alt2 (.step rfl (bod_lit_yes h (by omega)) (.step rfl (bod_any h2 hl) (.step rfl bod_jump2 (.step rfl bod_succ (.step rfl bod_back1 (.one rfl (bod_back2 (by omega) h0 hk)))))))))⟩
theorem one_end (h : T.getD p 0 = 34) (hl : p < lim) (h0 : 0 ≤ k) : ∃ σ', Reach 10 (bod T lim s p k σ b) (got T lim s (p + 1) σ' b) := by
  obtain ⟨σ1, e1⟩ := bod_in_no (k := k) (s := s) (σ := σ.add 7) (b := b) (.inl h) hl
  exact ⟨_, .step rfl bod_branch (.step rfl e1 (.step rfl bod_alt2 (.step rfl (bod_lit_no (by omega) hl) (.step rfl bod_alt3 (.step rfl (bod_out h0) (.step rfl (end_lit h hl) (.step rfl end_succ (.step rfl end_up (.one rfl end_got)))))))))⟩
theorem one_start (h : T.getD s 0 = 34) (hl : s < lim) : ∃ σ', Reach 2 (att T lim s σ b) (bod T lim s (s + 1) 0 σ' b) := by
  obtain ⟨σ1, e1⟩ := att_hit (σ := σ) (b := b) h hl
  exact ⟨_, .step rfl e1 (.one rfl hit_poss)⟩
theorem miss2 (hl : s < lim) : M.step { att T lim s σ b with answer := some false } = att T lim (s + 1) σ false := by
  simp only [M.step, att, bod, got, M.exec, M.word, M.say, M.possessive, M.attempt, M.frame, M.keep, M.alternative, M.putBack, M.resume, M.loopAt, itemWidth, qs, Nat.add_zero, Nat.reduceAdd, Nat.reduceLT, Nat.reduceGT, Option.isSome_none, Option.isSome_some, Bool.false_eq_true, if_false, if_true, gt_iff_lt, ge_iff_le, w9, w10, w11, w12, w13, w14, w15, w16, w17, w18, w25, w26, w27, w28, w29, w30, w31, w32, w33, w34, w35, w36, w37, o1, o2, o7, o13, o15, o16, o28, accLit 9 34 _ _ w9 w10, accLit 28 92 _ _ w28 w29, accLit 35 34 _ _ w35 w36, acc30, hl, M.attemptFrom, M.hasFirstSet, M.attemptAt]
  rfl
theorem miss3 (hl : lim ≤ s) : M.step { att T lim s σ b with answer := some false } = { att T lim s σ b with answer := some false, frames := [], weight := 0 } := by
  have hl' : ¬ s < lim := by omega
  simp only [M.step, att, bod, got, M.exec, M.word, M.say, M.possessive, M.attempt, M.frame, M.keep, M.alternative, M.putBack, M.resume, M.loopAt, itemWidth, qs, Nat.add_zero, Nat.reduceAdd, Nat.reduceLT, Nat.reduceGT, Option.isSome_none, Option.isSome_some, Bool.false_eq_true, if_false, if_true, gt_iff_lt, ge_iff_le, w9, w10, w11, w12, w13, w14, w15, w16, w17, w18, w25, w26, w27, w28, w29, w30, w31, w32, w33, w34, w35, w36, w37, o1, o2, o7, o13, o15, o16, o28, accLit 9 34 _ _ w9 w10, accLit 28 92 _ _ w28 w29, accLit 35 34 _ _ w35 w36, acc30, hl', M.attemptFrom, M.hasFirstSet, M.attemptAt]
  rfl
theorem one_miss (h : T.getD s 0 ≠ 34) (hl : s < lim) : ∃ σ', Reach 2 (att T lim s σ b) (att T lim (s + 1) σ' false) := by
  obtain ⟨σ1, e1⟩ := att_miss1 (σ := σ) (b := b) (.inl h : _ ∨ lim ≤ s)
  exact ⟨_, .step rfl e1 (.one rfl (miss2 hl))⟩
theorem last_miss (hl : lim ≤ s) : ∃ m, Reach 3 (att T lim s σ b) m ∧ m.outcome = some .failed := by
  obtain ⟨σ1, e1⟩ := att_miss1 (T := T) (σ := σ) (b := b) (.inr hl : _ ∨ lim ≤ s)
  exact ⟨_, .step rfl e1 (.step rfl (miss3 hl) (.one rfl rfl)), rfl⟩
theorem forSearch_att (h : s + 2 ≤ lim) : ∃ σ, forSearch qc T 0 s lim false = att T lim s σ true := by
  have h1 : ¬ (lim < s) := by omega
  have h2 : ¬ (lim - s < 2) := by omega
  refine ⟨({} : Sre.Seen).add 14, ?_⟩
  show (if (decide (s > lim) || decide (lim - s < 2)) = true then _ else _) = _
  rw [decide_eq_false h1, decide_eq_false h2, if_neg (by decide)]
  rfl
theorem forSearch_short (h : lim < s + 2) : ∃ m, Reach 1 (forSearch qc T 0 s lim false) m ∧ m.outcome = some .failed := by
  have h2 : (decide (s > lim) || decide (lim - s < 2)) = true := by
    rw [Bool.or_eq_true, decide_eq_true_iff, decide_eq_true_iff]; omega
  have e : forSearch qc T 0 s lim false = if (decide (s > lim) || decide (lim - s < 2)) = true then _ else _ := rfl
  rw [e, if_pos h2]
  exact ⟨_, .one rfl rfl, rfl⟩
end
end Rx
end XSre
section XRxs
open PySem.Sre

namespace Rx
inductive Tk where
  | g (c : Nat)
  | q (k : Nat)
noncomputable def qTxt (k : Nat) : List Nat := if k = 1 then [34, 40, 34] else if k = 2 then [34, 92, 34, 41, 40, 34] else [34, 41, 92, 92, 34]
noncomputable def Tk.txt : Tk → List Nat
  | .g c => [c]
  | .q k => qTxt k
noncomputable def Tk.ok : Tk → Prop
  | .g c => c ≠ 34 ∧ c < 128
  | .q _ => True
noncomputable def txt (l : List Tk) : List Nat := l.flatMap Tk.txt
noncomputable def gaps : List Tk → List Nat
  | [] => []
  | .g c :: r => c :: gaps r
  | .q _ :: r => gaps r
noncomputable def first : List Tk → List Nat × Option (Nat × List Tk)
  | [] => ([], none)
  | .g c :: r => (c :: (first r).1, (first r).2)
  | .q k :: r => ([], some (k, r))
theorem first_txt : ∀ l : List Tk, txt l = (first l).1 ++ (match (first l).2 with | none => [] | some (k, r) => qTxt k ++ txt r)
  | [] => rfl
  | .g c :: r => by
    show c :: txt r = c :: _ ++ _
    rw [first_txt r]; rfl
  | .q k :: r => rfl
theorem first_gaps : ∀ l : List Tk, gaps l = (first l).1 ++ (match (first l).2 with | none => [] | some (k, r) => gaps r)
  | [] => rfl
  | .g c :: r => by
    show c :: gaps r = c :: _ ++ _
    rw [first_gaps r]; rfl
  | .q k :: r => rfl
theorem first_ok : ∀ {l : List Tk}, (∀ t ∈ l, t.ok) → (∀ c ∈ (first l).1, c ≠ 34 ∧ c < 128) ∧ (∀ k r, (first l).2 = some (k, r) → ∀ t ∈ r, t.ok)
  | [], _ => ⟨fun c hc => (by cases hc), fun k r h => (by cases h)⟩
  | .g c :: r, h => by
    obtain ⟨h1, h2⟩ := first_ok (l := r) fun t ht => h t (.tail _ ht)
    refine ⟨fun d hd => ?_, h2⟩
    rcases List.mem_cons.mp hd with rfl | hd
    · exact h _ (.head _)
    · exact h1 d hd
  | .q k :: r, h => ⟨fun c hc => (by cases hc), fun k' r' e => by cases e; exact fun t ht => h t (.tail _ ht)⟩
theorem first_len : ∀ {l : List Tk} {k : Nat} {r : List Tk}, (first l).2 = some (k, r) → r.length < l.length
  | .g c :: l, k, r, h => Nat.lt_succ_of_lt (first_len (l := l) h)
  | .q k :: l, k', r, h => by cases h; exact Nat.lt_succ_self _
noncomputable def At (T : Array Nat) (s : Nat) (l : List Nat) : Prop := ∀ i x, l[i]? = some x → T.getD (s + i) 0 = x
theorem At.head {T : Array Nat} {s x : Nat} {l : List Nat} (h : At T s (x :: l)) : T.getD s 0 = x := h 0 x rfl
theorem At.tail {T : Array Nat} {s x : Nat} {l : List Nat} (h : At T s (x :: l)) : At T (s + 1) l := fun i y hy => by
  rw [show s + 1 + i = s + (i + 1) by omega]
  exact h (i + 1) y hy
theorem At.app {T : Array Nat} {s : Nat} {l l' : List Nat} (h : At T s (l ++ l')) : At T (s + l.length) l' := fun i y hy => by
  rw [show s + l.length + i = s + (l.length + i) by omega]
  exact h _ y (by rw [List.getElem?_append_right (by omega), Nat.add_sub_cancel_left]; exact hy)
theorem At.left {T : Array Nat} {s : Nat} {l l' : List Nat} (h : At T s (l ++ l')) : At T s l := fun i y hy =>
  h i y (by rw [List.getElem?_append_left (List.getElem?_eq_some_iff.mp hy).1]; exact hy)
section
variable {T : Array Nat} {lim s : Nat} {σ : Sre.Seen} {b : Bool}
theorem quoted (k : Nat) (h : At T s (qTxt k)) (hl : s + (qTxt k).length ≤ lim) : ∃ σ', Reach 40 (att T lim s σ b) (got T lim s (s + (qTxt k).length) σ' b) := by
  unfold qTxt at h hl ⊢
  split at h <;> rename_i hk
  · rw [if_pos hk] at hl ⊢
    have h0 := h.head; have h1 := h.tail.head; have h2 := h.tail.tail.head
    simp only [List.length_cons, List.length_nil] at hl ⊢
    obtain ⟨σ1, r1⟩ := one_start (T := T) (lim := lim) (σ := σ) (b := b) h0 (by omega)
    obtain ⟨σ2, r2⟩ := one_plain (T := T) (lim := lim) (k := 0) (s := s) (σ := σ1) (b := b) (p := s + 1) (by rw [h1]; decide) (by rw [h1]; decide) (show s + 1 < lim by omega) (by omega) (by omega)
    obtain ⟨σ3, r3⟩ := one_end (T := T) (lim := lim) (k := 0 + 1) (s := s) (σ := σ2) (b := b) (p := s + 1 + 1) h2 (show s + 1 + 1 < lim by omega) (by omega)
    exact ⟨_, ((r1.trans r2).trans r3).le (by omega)⟩
  · rw [if_neg hk] at hl ⊢
    split at h <;> rename_i hk2
    · rw [if_pos hk2] at hl ⊢
      have h0 := h.head; have h1 := h.tail.head; have h2 := h.tail.tail.head; have h3 := h.tail.tail.tail.head; have h4 := h.tail.tail.tail.tail.head; have h5 := h.tail.tail.tail.tail.tail.head
      simp only [List.length_cons, List.length_nil] at hl ⊢
      obtain ⟨σ1, r1⟩ := one_start (T := T) (lim := lim) (σ := σ) (b := b) h0 (by omega)
      obtain ⟨σ2, r2⟩ := one_back (T := T) (lim := lim) (k := 0) (s := s) (σ := σ1) (b := b) (p := s + 1) h1 (by rw [h2]; decide) (show s + 1 + 1 < lim by omega) (by omega) (by omega)
      obtain ⟨σ3, r3⟩ := one_plain (T := T) (lim := lim) (k := 0 + 1) (s := s) (σ := σ2) (b := b) (p := s + 1 + 2) (by rw [show s + 1 + 2 = s + 1 + 1 + 1 from rfl, h3]; decide) (by rw [show s + 1 + 2 = s + 1 + 1 + 1 from rfl, h3]; decide) (show s + 1 + 2 < lim by omega) (by omega) (by omega)
      obtain ⟨σ4, r4⟩ := one_plain (T := T) (lim := lim) (k := 0 + 1 + 1) (s := s) (σ := σ3) (b := b) (p := s + 1 + 2 + 1) (by rw [show s + 1 + 2 + 1 = s + 1 + 1 + 1 + 1 from rfl, h4]; decide) (by rw [show s + 1 + 2 + 1 = s + 1 + 1 + 1 + 1 from rfl, h4]; decide) (show s + 1 + 2 + 1 < lim by omega) (by omega) (by omega)
      obtain ⟨σ5, r5⟩ := one_end (T := T) (lim := lim) (k := 0 + 1 + 1 + 1) (s := s) (σ := σ4) (b := b) (p := s + 1 + 2 + 1 + 1) h5 (show s + 1 + 2 + 1 + 1 < lim by omega) (by omega)
      exact ⟨_, ((((r1.trans r2).trans r3).trans r4).trans r5).le (by omega)⟩
    · rw [if_neg hk2] at hl ⊢
      have h0 := h.head; have h1 := h.tail.head; have h2 := h.tail.tail.head; have h3 := h.tail.tail.tail.head; have h4 := h.tail.tail.tail.tail.head
      simp only [List.length_cons, List.length_nil] at hl ⊢
      obtain ⟨σ1, r1⟩ := one_start (T := T) (lim := lim) (σ := σ) (b := b) h0 (by omega)
      obtain ⟨σ2, r2⟩ := one_plain (T := T) (lim := lim) (k := 0) (s := s) (σ := σ1) (b := b) (p := s + 1) (by rw [h1]; decide) (by rw [h1]; decide) (show s + 1 < lim by omega) (by omega) (by omega)
      obtain ⟨σ3, r3⟩ := one_back (T := T) (lim := lim) (k := 0 + 1) (s := s) (σ := σ2) (b := b) (p := s + 1 + 1) h2 (by rw [h3]; decide) (show s + 1 + 1 + 1 < lim by omega) (by omega) (by omega)
      obtain ⟨σ4, r4⟩ := one_end (T := T) (lim := lim) (k := 0 + 1 + 1) (s := s) (σ := σ3) (b := b) (p := s + 1 + 1 + 2) h4 (show s + 1 + 1 + 2 < lim by omega) (by omega)
      exact ⟨_, (((r1.trans r2).trans r3).trans r4).le (by omega)⟩
noncomputable def Found (T : Array Nat) (lim s : Nat) (l : List Tk) (m : Sre.M) : Prop := match (first l).2 with
  | none => m.outcome = some .failed
  | some (k, _) => ∃ σ' b', m = got T lim (s + (first l).1.length) (s + (first l).1.length + (qTxt k).length) σ' b'
theorem find : ∀ (l : List Tk) (s : Nat) (σ : Sre.Seen) (b : Bool), At T s (txt l) → s + (txt l).length = lim → (∀ t ∈ l, t.ok) → ∃ m, Reach (40 * (l.length + 1)) (att T lim s σ b) m ∧ Found T lim s l m
  | [], s, σ, b, h, hl, _ => by
    obtain ⟨m, r, ho⟩ := last_miss (T := T) (s := s) (σ := σ) (b := b) (show lim ≤ s from Nat.le_of_eq hl.symm)
    exact ⟨m, r.le (by simp), ho⟩
  | .g c :: l, s, σ, b, h, hl, hk => by
    have h' : At T s (c :: txt l) := h
    have hl' : s + (txt l).length + 1 = lim := hl
    obtain ⟨σ1, r1⟩ := one_miss (T := T) (lim := lim) (σ := σ) (b := b) (by rw [h'.head]; exact (hk _ (.head _)).1) (show s < lim by omega)
    obtain ⟨m, r2, hf⟩ := find l (s + 1) σ1 false h'.tail (by omega) fun t ht => hk t (.tail _ ht)
    refine ⟨m, (r1.trans r2).le (by rw [List.length_cons]; omega), ?_⟩
    unfold Found at hf ⊢
    show match (first l).2 with | none => _ | some (k, _) => _
    cases hq : (first l).2 with
    | none => rw [hq] at hf; exact hf
    | some q =>
      rw [hq] at hf
      obtain ⟨σ', b', e⟩ := hf
      refine ⟨σ', b', ?_⟩
      rw [e]
      show got T lim (s + 1 + _) _ _ _ = got T lim (s + ((first l).1.length + 1)) (s + ((first l).1.length + 1) + _) _ _
      rw [show s + 1 + (first l).1.length = s + ((first l).1.length + 1) by omega]
  | .q k :: l, s, σ, b, h, hl, hk => by
    have h' : At T s (qTxt k ++ txt l) := h
    have hl' : s + (qTxt k ++ txt l).length = lim := hl
    rw [List.length_append] at hl'
    obtain ⟨σ1, r1⟩ := quoted (σ := σ) (b := b) k h'.left (show s + (qTxt k).length ≤ lim by omega)
    exact ⟨_, r1.le (by rw [List.length_cons]; omega), σ1, b, rfl⟩
theorem qTxt_len (k : Nat) : 3 ≤ (qTxt k).length := by
  unfold qTxt
  split
  · decide
  · split <;> decide
theorem first_none_short {l : List Tk} (h : (txt l).length < 3) : (first l).2 = none := by
  cases hq : (first l).2 with
  | none => rfl
  | some q =>
    have := first_txt l
    rw [hq] at this
    have h2 := congrArg List.length this
    simp only [List.length_append] at h2
    have := qTxt_len q.1
    omega
theorem search (l : List Tk) (s : Nat) (h : At T s (txt l)) (hl : s + (txt l).length = lim) (hk : ∀ t ∈ l, t.ok) : ∃ m, Reach (40 * (l.length + 1)) (forSearch qc T 0 s lim false) m ∧ Found T lim s l m := by
  by_cases hs : s + 2 ≤ lim
  · obtain ⟨σ, e⟩ := forSearch_att (T := T) hs
    rw [e]
    exact find l s σ true h hl hk
  · obtain ⟨m, r, ho⟩ := forSearch_short (T := T) (show lim < s + 2 by omega)
    refine ⟨m, r.le (by omega), ?_⟩
    unfold Found
    rw [first_none_short (by omega)]
    exact ho
theorem run_done {m : Sre.M} (h : m.outcome.isSome = true) : ∀ n, M.runFor n m = m
  | 0 => rfl
  | n + 1 => by
    show (if m.outcome.isSome = true then m else M.runFor n m.step) = m
    rw [if_pos h]
theorem run_add : ∀ (a b : Nat) (m : Sre.M), M.runFor (a + b) m = M.runFor b (M.runFor a m)
  | 0, b, m => by rw [Nat.zero_add]; rfl
  | a + 1, b, m => by
    rw [show a + 1 + b = (a + b) + 1 by omega]
    show (if m.outcome.isSome = true then m else M.runFor (a + b) m.step) = M.runFor b (if m.outcome.isSome = true then m else M.runFor a m.step)
    by_cases h : m.outcome.isSome = true
    · rw [if_pos h, if_pos h, run_done h]
    · rw [if_neg h, if_neg h, run_add a b]
end
end Rx
end XRxs
section XByf
set_option maxRecDepth 100000

namespace Byf
open Builtin
theorem slot_join : Slot "bytes" "join" "bytes.join" :=
  .of (owner := "bytes") (n := "join") (by rw [typeLookup_type, builtinLookup_eq_fast]; kernel_rfl) (by decide +kernel) (by decide +kernel) (by decide +kernel)
    (by first | exact .inl (by decide +kernel) | exact .inr (by decide +kernel)) (by rw [isSubtype_type]; kernel_rfl)
theorem entry_join : entryFor table "bytes.join" = some Builtin.«bytes.join» := entryFor_of_tree (by kernel_rfl)
theorem args_join (a b : Value) : argsOk "bytes.join" ⟨[a, b], []⟩ := by
  unfold argsOk; rw [signature?_of (id := "bytes.join") (n := ['n', 'i', 'o', 'j']) (o := ['s', 'e', 't', 'y', 'b']) (by kernel_rfl) FB.owner_bytes]; kernel_rfl
theorem slot_count : Slot "bytes" "count" "bytes.count" :=
  .of (owner := "bytes") (n := "count") (by rw [typeLookup_type, builtinLookup_eq_fast]; kernel_rfl) (by decide +kernel) (by decide +kernel) (by decide +kernel)
    (by first | exact .inl (by decide +kernel) | exact .inr (by decide +kernel)) (by rw [isSubtype_type]; kernel_rfl)
theorem type_count : typeOf (.builtin "bytes.count") = pure (.type "method_descriptor") := by show builtinType _ = _; rw [builtinType_eq_fast]; kernel_rfl
theorem entry_count : entryFor table "bytes.count" = some Builtin.«bytes.count» := entryFor_of_tree (by kernel_rfl)
theorem args_count (a b : Value) : argsOk "bytes.count" ⟨[a, b], []⟩ := by
  unfold argsOk; rw [signature?_of (id := "bytes.count") (n := ['t', 'n', 'u', 'o', 'c']) (o := ['s', 'e', 't', 'y', 'b']) (by kernel_rfl) FB.owner_bytes]; kernel_rfl
theorem take_eq {id : String} {b : Array UInt8} {t : Tok} : Bytes.takeBuffer? id (.bytes b t) 0 = pure (some (b, none)) := by
  unfold Bytes.takeBuffer?
  rw [KBy.special_eq KBy.look_buffer, KBy.own_buffer]
  have e : Bytes.buffer? id (.bytes b t) (full := (0 : Int) == Bytes.fullReadOnly) = pure (some b) := KBy.buffer_eq
  rw [e]
  kernel_rfl
theorem takeQ_eq {id : String} {b : Array UInt8} {t : Tok} : Bytes.takeBufferQuiet? id (.bytes b t) 0 = pure (some (b, none)) := by
  unfold Bytes.takeBufferQuiet?
  rw [take_eq]
  rfl
inductive ByAre : List Value → List (Array UInt8) → Prop
  | nil : ByAre [] []
  | cons (b : Array UInt8) (t : Tok) {vs : List Value} {bs : List (Array UInt8)} : ByAre vs bs → ByAre (.bytes b t :: vs) (b :: bs)
theorem ByAre.push : ∀ {vs : List Value} {bs : List (Array UInt8)}, ByAre vs bs → ∀ b t, ByAre (vs ++ [.bytes b t]) (bs ++ [b])
  | _, _, .nil, b, t => .cons b t .nil
  | _, _, .cons c u r, b, t => .cons c u (r.push b t)
theorem ByAre.length : ∀ {vs : List Value} {bs : List (Array UInt8)}, ByAre vs bs → vs.length = bs.length
  | _, _, .nil => rfl
  | _, _, .cons _ _ r => by rw [List.length_cons, List.length_cons, r.length]
theorem ByAre.at : ∀ {vs : List Value} {bs : List (Array UInt8)}, ByAre vs bs → ∀ (i : Nat) (h : i < bs.length), ∃ t, vs[i]? = some (.bytes bs[i] t)
  | _, _, .cons b t _, 0, _ => ⟨t, rfl⟩
  | _, _, .cons b t r, i + 1, h => r.at i (Nat.lt_of_succ_lt_succ h)
noncomputable def catB (bs : List (Array UInt8)) : List UInt8 := bs.flatMap (·.toList)
theorem catB_push (bs : List (Array UInt8)) (b : Array UInt8) : catB (bs ++ [b]) = catB bs ++ b.toList := by
  unfold catB; rw [List.flatMap_append]; simp
theorem joined_fold : ∀ (l : List (Array UInt8)) (k : Nat) (out : Array UInt8), ((l.zipIdx k).foldl (fun out (p, i) => (if i > 0 then out ++ #[] else out) ++ p) out) = out ++ (catB l).toArray
  | [], k, out => by unfold catB; simp
  | b :: l, k, out => by
    rw [List.zipIdx_cons, List.foldl_cons, joined_fold l]
    have : (if k > 0 then out ++ (#[] : Array UInt8) else out) = out := by split <;> simp
    dsimp only
    rw [this]
    unfold catB
    rw [List.flatMap_cons]
    apply Array.toList_inj.mp
    simp
theorem joined_eq (l : List (Array UInt8)) : Bytes.joined #[] l = (catB l).toArray := by
  unfold Bytes.joined
  rw [joined_fold]
  simp
theorem sizes_fold (l : List (Array UInt8)) : ∀ n, l.toArray.foldl (fun x y => x + y.size) n = n + (catB l).length := by
  intro n
  rw [List.foldl_toArray]
  induction l generalizing n with
  | nil => rfl
  | cons b l ih => rw [List.foldl_cons, ih]; unfold catB; rw [List.flatMap_cons, List.length_append]; simp; omega
end Byf
end XByf
section XByj
set_option maxRecDepth 100000

namespace Byf
open Builtin
section
variable {prog : Program} {w : World} {A : Around} {E : Value → Shared → Prop} {s : Shared} {D : Addr} {o : Obj} {vs : List Value} {n : Nat}
theorem noTaken (keep : List Value) {M : Model} {Q : Unit → Shared → Prop} (h : Q () s) : ∀ l : List (Value × Option Value), (∀ p ∈ l, p.2 = none) → wpAny M A (Bytes.joinLetGo l keep) Q E s
  | [], _ => by unfold Bytes.joinLetGo; exact wpAny_pure h
  | (x, wo) :: rest, hn => by
    have e : wo = none := hn _ (.head _)
    subst e
    unfold Bytes.joinLetGo
    dsimp only
    refine wpAny_bind (wpAny_letGo ?_)
    exact noTaken keep h rest fun p hp => hn p (.tail _ hp)
theorem m1 {β : Type} (va : Array Value) (h : va.size ≠ 1) (f : Value → β) (g : Array Value → β) : Bytes.joinM.match_1 (fun _ => β) va f g = g va := by
  unfold Bytes.joinM.match_1
  rw [dif_neg h]
theorem meets_join {bs : List (Array UInt8)} {u : Tok} (hb : ByAre vs bs) : Meets («bytes.join» ⟨[.bytes #[] u, .ref D], []⟩) (fun _ R s => (∃ o, s.heap.get? D = some o ∧ o.cls = .type "list" ∧ o.data = .seq vs.toArray n) ∧ (catB bs).length ≤ sizeLine ∧ ∀ t' k, R (.ok (.ret (.bytes (catB bs).toArray t'))) { s with toks := k }) := by
  refine .of_wp fun prog w A R s hS => ?_
  obtain ⟨⟨o, hg, hc, hd⟩, hz, hR⟩ := hS
  have hl := hb.length
  by_cases h1 : ∃ b, bs = [b]
  · obtain ⟨b, rfl⟩ := h1
    cases hb with
    | cons b t r =>
      cases r
      unfold «bytes.join» Bytes.joinM
      show wpAny _ _ (Bytes.joinItems (.ref D) >>= fun seq => _) _ _ s
      unfold Bytes.joinItems
      refine wpAny_bind ?_
      refine wpAny_bind (wpAny_typeOf_ref hg ?_)
      refine wpAny_yes (by rw [hc]; rfl) ?_
      refine wpAny_pure ?_
      refine wpAny_bind (wpAny_seqItems hg hd ?_)
      dsimp only
      show wpAny _ _ (typeOf (.bytes b t) >>= _) _ _ _
      refine wpAny_bind (wpAny_typeOf (typeIs_bytes _ _ _) ?_)
      refine wpAny_yes rfl ?_
      refine wpAny_bind (wpAny_rule ?_)
      refine wpAny_pure ⟨_, rfl, ?_⟩
      have e : (catB [b]).toArray = b := by unfold catB; simp
      have := hR t s.toks
      rw [e] at this
      exact this
  · have h1' : vs.toArray.size ≠ 1 := fun e => h1 (by
      rw [List.size_toArray, hl] at e
      match bs, e with
      | [b], _ => exact ⟨b, rfl⟩)
    unfold «bytes.join» Bytes.joinM
    show wpAny _ _ (Bytes.joinItems (.ref D) >>= fun seq => _) _ _ s
    unfold Bytes.joinItems
    refine wpAny_bind ?_
    refine wpAny_bind (wpAny_typeOf_ref hg ?_)
    refine wpAny_yes (by rw [hc]; rfl) ?_
    refine wpAny_pure ?_
    refine wpAny_bind (wpAny_seqItems hg hd ?_)
    dsimp only
    rw [if_pos (show (Bytes.Kind.bytes == Bytes.Kind.bytes) = true from rfl)]
    rw [m1 _ h1']
    rw [Std.Legacy.Range.forIn_eq_forIn_range']
    simp only [Std.Legacy.Range.size, Nat.sub_zero, Nat.add_sub_cancel, Nat.div_one]
    refine (let f9 : _ := _; (?_ : wpAny _ _ (forIn _ _ f9 >>= _) _ _ _))
    refine wpAny_bind (wpAny_mono (wpAny_forIn_list _ (fun rest q s' => s' = s ∧ ∃ i, rest = List.range' i (bs.length - i) ∧ i ≤ bs.length ∧ q.1.toList = bs.take i ∧ (q.2.any (·.1.onHeap)) = false ∧ ∀ p ∈ q.2, p.2 = none) (fun q s' => s' = s ∧ q.1.toList = bs ∧ ∀ p ∈ q.2, p.2 = none) ?turn ?fin _ _ ⟨rfl, 0, ?start, Nat.zero_le _, by simp, rfl, fun p hp => by cases hp⟩) ?after fun _ _ x => x)
    case turn =>
      rintro x rest ⟨q1, q2⟩ s' ⟨rfl, i, hr, hi, hq1, hq2, hq3⟩
      have hlt : i < bs.length := by
        rcases Nat.lt_or_ge i bs.length with h | h
        · exact h
        · rw [Nat.sub_eq_zero_of_le h] at hr; simp at hr
      have hr2 : List.range' i (bs.length - i) = i :: List.range' (i + 1) (bs.length - (i + 1)) := by
        rw [show bs.length - i = (bs.length - (i + 1)) + 1 by omega, List.range'_succ]
      rw [hr2] at hr
      injection hr with hx hr
      subst hx
      obtain ⟨t, ht⟩ := hb.at x hlt
      have hgd : vs.toArray.getD x Value.none = .bytes bs[x] t := by
        have hlt2 : x < vs.length := by omega
        rw [List.getElem?_eq_getElem hlt2] at ht
        simp [Array.getD, hlt2]
        exact Option.some.inj ht
      dsimp only [f9]
      refine wpAny_bind (wpAny_seqItems hg hd ?_)
      dsimp only
      dsimp only at hq2
      rw [hq2, hgd]
      refine wpAny_no Bool.false_ne_true ?_
      refine wpAny_bind (wpAny_holding (wpAny_of_eq takeQ_eq ?_))
      dsimp only
      refine wpAny_bind (wpAny_seqItems hg hd ?_)
      dsimp only
      rw [if_neg (by simp)]
      refine wpAny_pure ⟨rfl, x + 1, hr, hlt, ?_, ?_, ?_⟩
      · dsimp only
        dsimp only at hq1
        rw [Array.toList_push, hq1, List.take_add_one, List.getElem?_eq_getElem hlt]
        rfl
      · dsimp only
        rw [List.any_append, hq2]
        rfl
      · intro p hp
        rcases List.mem_append.mp hp with h | h
        · exact hq3 p h
        · rw [List.mem_singleton.mp h]
    case fin =>
      rintro ⟨q1, q2⟩ s' ⟨rfl, i, hr, hi, hq1, hq2, hq3⟩
      refine ⟨rfl, ?_, hq3⟩
      have : i = bs.length := by
        have := congrArg List.length hr
        simp at this
        omega
      rw [hq1, this, List.take_length]
    case start => simp [hl]
    case after =>
      rintro ⟨q1, q2⟩ s' ⟨rfl, hq1, hq3⟩
      dsimp only at hq1 hq3 ⊢
      refine wpAny_bind ?_
      show wpAny _ _ (pure (#[] : Array UInt8)) _ _ _
      refine wpAny_pure ?_
      have e1 : q1 = bs.toArray := Array.toList_inj.mp (by rw [hq1])
      subst e1
      have e2 : Bytes.tooLong (Array.foldl (fun x y => x + y.size) ((#[] : Array UInt8).size * (bs.toArray.size - 1)) bs.toArray) = false := by
        refine KBy.tooLong_not ?_
        have := sizes_fold bs ((#[] : Array UInt8).size * (bs.toArray.size - 1))
        rw [this]
        rw [sizeLine_eq] at hz
        simp
        omega
      rw [e2, if_neg Bool.false_ne_true]
      refine wpAny_bind ?_
      show wpAny _ _ (mkBytes (Bytes.joined #[] bs.toArray.toList)) _ _ _
      have e3 : bs.toArray.toList = bs := rfl
      rw [e3, joined_eq]
      refine wpAny_mkBytes ?_ (by rw [List.size_toArray]; exact hz)
      refine wpAny_bind (wpAny_holding (wpAny_point ?_))
      refine wpAny_bind (noTaken _ ?_ _ hq3)
      exact wpAny_pure ⟨_, rfl, hR _ _⟩
theorem join {bs : List (Array UInt8)} {u : Tok} {Q : Value → Shared → Prop} (hg : s.heap.get? D = some (listOf vs.toArray n)) (hb : ByAre vs bs) (hz : (catB bs).length < 2 ^ 20)
    (h : ∀ t' k, Q (.bytes (catB bs).toArray t') { s with toks := k }) : wpAny (model prog w) A (call (.builtin "bytes.join") [.bytes #[] u, .ref D]) Q E s :=
  call_meets slot_join (typeIs_bytes _ _ _) entry_join (args_join _ _) (meets_join hb) ⟨⟨_, hg, rfl, rfl⟩, by rw [sizeLine_eq]; omega, h⟩
end
end Byf
end XByj
section XByk
set_option maxRecDepth 100000

namespace Byf
open Builtin
theorem occs_fold (b : Array UInt8) (c : UInt8) : ∀ k ≤ b.size, ∃ acc : List Nat × Nat, ((List.range k).map (· + 0)).foldl (fun (acc : List Nat × Nat) (i : Nat) => if (decide (i ≥ acc.2) && b.extract i (i + (#[c] : Array UInt8).size) == #[c]) = true then (i :: acc.1, i + (#[c] : Array UInt8).size) else acc) ([], 0) = acc ∧ acc.1.length = (b.toList.take k).count c ∧ acc.2 ≤ k
  | 0, _ => ⟨_, rfl, rfl, Nat.le_refl _⟩
  | k + 1, h => by
    obtain ⟨acc, e, e1, e2⟩ := occs_fold b c k (by omega)
    rw [List.range_succ, List.map_append, List.foldl_append, e]
    have hk : k < b.size := by omega
    have hx : b.extract (k + 0) (k + 0 + (#[c] : Array UInt8).size) = #[b[k]] := by
      apply Array.toList_inj.mp
      apply List.ext_getElem?
      intro i
      rw [Array.getElem?_toList, Array.getElem?_extract]
      show (if i < min (k + 0 + 1) b.size - (k + 0) then _ else _) = ([b[k]])[i]?
      cases i with
      | zero => rw [if_pos (by omega)]; simp [hk]
      | succ i => rw [if_neg (by omega)]; rfl
    simp only [List.map_cons, List.map_nil, List.foldl_cons, List.foldl_nil]
    rw [hx, decide_eq_true (show k + 0 ≥ acc.2 by omega), Bool.true_and]
    have ht : b.toList.take (k + 1) = b.toList.take k ++ [b[k]] := by
      rw [List.take_add_one, List.getElem?_eq_getElem (by simpa using hk)]
      rfl
    rw [ht, List.count_append, ← e1]
    by_cases hc : b[k] = c
    · first | refine wpAny_yes (by rw [hc]; simp) ?_ | refine wpC_yes (by rw [hc]; simp) ?_ | rw [if_pos (by rw [hc]; simp)]
      refine ⟨_, rfl, ?_, ?_⟩
      · rw [hc]; simp
      · show k + 0 + 1 ≤ k + 1; omega
    · have : ¬ ((#[b[k]] : Array UInt8) == #[c]) = true := by simpa using hc
      first | refine wpAny_no this ?_ | refine wpC_no this ?_ | rw [if_neg this]
      refine ⟨_, rfl, ?_, by omega⟩
      rw [List.count_singleton]
      simp [hc]
theorem occs_len (b : Array UInt8) (c : UInt8) : (Bytes.occurrences b #[c] 0 b.size).length = b.toList.count c := by
  obtain ⟨acc, e, e1, _⟩ := occs_fold b c b.size (Nat.le_refl _)
  unfold Bytes.occurrences
  show (((List.range (b.size + 1 - (0 + 1))).map (· + 0)).foldl _ ([], 0)).1.reverse.length = _
  rw [show b.size + 1 - (0 + 1) = b.size by omega, e, List.length_reverse, e1]
  rw [List.take_of_length_le (by simp)]
theorem meets_count {b : Array UInt8} {c : UInt8} {t u : Tok} : Meets («bytes.count» ⟨[.bytes b t, .bytes #[c] u], []⟩) (fun _ R s => ∀ t' k, R (.ok (.ret (.int (b.toList.count c : Nat) t'))) { s with toks := k }) := by
  refine .of_wp fun prog w A R s hR => ?_
  unfold «bytes.count» Bytes.countM
  refine wpAny_bind ?_
  unfold Bytes.searchArgs
  show wpAny _ _ (Bytes.buffer? _ (.bytes #[c] u) >>= fun r => _) _ _ s
  refine wpAny_bind (wpAny_of_eq KBy.buffer_eq ?_)
  refine wpAny_pure ?_
  dsimp only
  have e0 : (b.size : Int) - 0 = b.size := by omega
  have hw : Bytes.window b.size none none = (0, (b.size : Int)) := by
    unfold Bytes.window
    simp
    split <;> omega
  show wpAny _ _ (match (if (Bytes.window b.size none none).2 - (Bytes.window b.size none none).1 < ((#[c] : Array UInt8).size : Int) then none else some ((Bytes.window b.size none none).1.toNat, (Bytes.window b.size none none).2.toNat)) with | none => retInt 0 | some (lo, hi) => _) _ _ _
  rw [hw]
  dsimp only
  by_cases h0 : (b.size : Int) - 0 < ((#[c] : Array UInt8).size : Int)
  · first | refine wpAny_yes h0 ?_ | refine wpC_yes h0 ?_ | rw [if_pos h0]
    have hb : b.toList.count c = 0 := by
      have : b.size = 0 := by
        have e : (#[c] : Array UInt8).size = 1 := rfl
        rw [e] at h0
        omega
      have : b = #[] := Array.eq_empty_of_size_eq_zero this
      rw [this]; rfl
    have := hR s.toks (s.toks + 1)
    rw [hb] at this
    exact wpAny_bind (wpAny_mkInt (wpAny_pure ⟨_, rfl, this⟩))
  · first | refine wpAny_no h0 ?_ | refine wpC_no h0 ?_ | rw [if_neg h0]
    show wpAny _ _ (if false = true then _ else retInt ((Bytes.occurrences b #[c] 0 b.size).length : Nat)) _ _ _
    rw [if_neg Bool.false_ne_true, occs_len]
    exact wpAny_bind (wpAny_mkInt (wpAny_pure ⟨_, rfl, hR _ _⟩))
section
variable {prog : Program} {w : World} {A : Around} {E : Value → Shared → Prop} {s : Shared}
theorem count {b : Array UInt8} {c : UInt8} {t u : Tok} {Q : Value → Shared → Prop} (h : ∀ t' k, Q (.int (b.toList.count c : Nat) t') { s with toks := k }) : wpAny (model prog w) A (call (.builtin "bytes.count") [.bytes b t, .bytes #[c] u]) Q E s :=
  call_meets slot_count (typeIs_bytes _ _ _) entry_count (args_count _ _) meets_count h
theorem countM {M : Model} {b : Array UInt8} {t : Tok} {pl : Sem Bool} {Q : Value × List Value → Shared → Prop} (h : Q (.builtin "bytes.count", [.bytes b t]) s) : wpAny M A (getMethod (.bytes b t) (PySem.Str.ofString "count") pl) Q E s := by
  exact KBd.method_of (.bytes b t) (typeIs_bytes _ _ _) slot_count type_count KBd.noRef h
end
end Byf
end XByk
section XByl
set_option maxRecDepth 100000

namespace Byf
open Builtin
noncomputable def asc : Str := PySem.Str.ofString "ascii"
theorem road_ascii (id : String) (self : Value) (x : Str) (errors : Option Str) : _codecs.encodeRoad id self x asc errors = (_codecs.encodeNarrow id _codecs.asciiCodec errors self x >>= fun b => mkBytes b) := by
  unfold asc
  first | rfl | kernel_rfl | (unfold _codecs.encodeRoad; rfl) | (unfold _codecs.encodeRoad; simp only []; rfl)
theorem encode_tree (x : Str) (t u : Tok) : «str.encode» ⟨[.str x t, .str asc u], []⟩ = (_codecs.encodeRoad "str.encode" (.str x t) x asc none >>= fun v => ret v) := by
  unfold asc
  first | rfl | kernel_rfl
theorem asc_fold (b : Array UInt8) : ∀ l : List Nat, (l.toArray.foldl (fun acc y => acc ++ (_codecs.asciiCodec.bytesOf y).toArray) b) = b ++ (l.map (·.toUInt8)).toArray := by
  intro l
  rw [List.foldl_toArray]
  induction l generalizing b with
  | nil => simp
  | cons c l ih =>
    rw [List.foldl_cons, ih]
    apply Array.toList_inj.mp
    simp [_codecs.asciiCodec]
theorem asc_none {l : List Nat} (h : ∀ c ∈ l, c < 128) : l.toArray.findIdx? _codecs.asciiCodec.bad = none := by
  rw [List.findIdx?_toArray, List.findIdx?_eq_none_iff]
  intro c hc
  have := h c hc
  exact decide_eq_false (by omega)
section
variable {prog : Program} {w : World} {A : Around} {E : Value → Shared → Prop} {s : Shared}
theorem narrow {id : String} {self : Value} {x : Str} {Q : Array UInt8 → Shared → Prop} {M : Model} (h : ∀ c ∈ x.cps.toList, c < 128) (hsz : x.length < 2 ^ 20) (hq' : Q (x.cps.map (·.toUInt8)) s) : wpAny M A (_codecs.encodeNarrow id _codecs.asciiCodec none self x) Q E s := by
  unfold _codecs.encodeNarrow
  dsimp only
  rw [Std.Legacy.Range.forIn_eq_forIn_range']
  simp only [Std.Legacy.Range.size, Nat.sub_zero, Nat.add_sub_cancel, Nat.div_one]
  refine (let f9 : _ := _; (?_ : wpAny _ _ (forIn _ _ f9 >>= _) _ _ _))
  refine wpAny_bind (wpAny_mono (wpAny_forIn_list _ (fun rest q s' => s' = s ∧ ((q.1 = 0 ∧ q.2.1 = #[] ∧ rest = List.range' 0 x.length) ∨ (q.1 = x.length ∧ q.2.1 = x.cps.map (·.toUInt8)))) (fun q s' => s' = s ∧ q.2.1 = x.cps.map (·.toUInt8)) ?turn ?fin _ _ ⟨rfl, .inl ⟨rfl, rfl, rfl⟩⟩) ?after fun _ _ x => x)
  case after =>
    rintro ⟨q1, q2, q3⟩ s' ⟨rfl, hq⟩
    dsimp only at hq ⊢
    rw [hq]
    exact wpAny_pure hq'
  case fin =>
    rintro ⟨q1, q2, q3⟩ s' ⟨rfl, ⟨h1, h2, h3⟩ | ⟨h1, h2⟩⟩
    · refine ⟨rfl, ?_⟩
      have hn : x.length = 0 := by
        have := congrArg List.length h3
        simpa using this.symm
      dsimp only at h2 ⊢
      have : x.cps = #[] := Array.eq_empty_of_size_eq_zero hn
      rw [h2, this]
      simp
    · exact ⟨rfl, h2⟩
  case turn =>
    rintro k rest ⟨q1, q2, q3⟩ s' ⟨rfl, ⟨h1, h2, h3⟩ | ⟨h1, h2⟩⟩
    · dsimp only at h1 h2
      subst h1
      subst h2
      have hn : 0 < x.cps.size := by
        have := congrArg List.length h3
        simp at this
        show 0 < x.length
        omega
      dsimp only [f9]
      refine wpAny_no (by rw [sizeLine_eq]; decide) ?_
      rw [Array.getElem?_eq_getElem hn]
      dsimp only
      have hb : _codecs.asciiCodec.bad x.cps[0] = false := by
        have := h _ (Array.getElem_mem_toList hn)
        exact decide_eq_false (by omega)
      rw [hb]
      refine wpAny_yes rfl ?_
      have hx : x.cps.extract 0 x.cps.size = x.cps := by simp
      have hxl : x.cps = x.cps.toList.toArray := by simp
      have hf : x.cps.findIdx? _codecs.asciiCodec.bad = none := by rw [hxl]; exact asc_none h
      have hg : x.cps.foldl (fun acc y => acc ++ (_codecs.asciiCodec.bytesOf y).toArray) #[] = x.cps.map (·.toUInt8) := by
        have e := asc_fold #[] x.cps.toList
        rw [← hxl] at e
        rw [e]
        apply Array.toList_inj.mp
        simp
      rw [hx, hf, Option.getD_none, hx, hg]
      exact wpAny_pure ⟨rfl, .inr ⟨by show 0 + x.cps.size = x.cps.size; omega, rfl⟩⟩
    · dsimp only at h1 h2
      subst h1
      have hn : x.cps[x.length]? = none := Array.getElem?_eq_none (Nat.le_refl _)
      have hz : ¬ q2.size > sizeLine := by
        rw [h2, Array.size_map, sizeLine_eq]
        have := hsz
        show ¬ x.length > 16777216
        omega
      dsimp only [f9]
      refine wpAny_no hz ?_
      rw [hn]
      exact wpAny_pure ⟨rfl, h2⟩
theorem meets_encode {x : Str} {t u : Tok} (ha : ∀ c ∈ x.cps.toList, c < 128) (hsz : x.length < 2 ^ 20) : Meets («str.encode» ⟨[.str x t, .str asc u], []⟩) (fun _ R s => ∀ t' k, R (.ok (.ret (.bytes (x.cps.map (·.toUInt8)) t'))) { s with toks := k }) := by
  refine .of_wp fun prog w A R s hR => ?_
  rw [encode_tree, road_ascii]
  refine wpAny_bind (wpAny_bind (narrow ha hsz ?_))
  exact wpAny_mkBytes (wpAny_pure ⟨_, rfl, hR _ _⟩) (by rw [Array.size_map, sizeLine_eq]; show x.length ≤ _; omega)
theorem encode {x : Str} {t u : Tok} {Q : Value → Shared → Prop} (ha : ∀ c ∈ x.cps.toList, c < 128) (hsz : x.length < 2 ^ 20) (h : ∀ t' k, Q (.bytes (x.cps.map (·.toUInt8)) t') { s with toks := k }) : wpAny (model prog w) A (call (.builtin "str.encode") [.str x t, .str asc u]) Q E s :=
  call_meets F.slot_str_encode (typeIs_str _ _ _) F.entry_str_encode (F.args_str_encode_2 _ _) (meets_encode ha hsz) h
end
end Byf
end XByl
section XByp
set_option maxRecDepth 100000

namespace Byf
open Builtin
theorem plainAttrs_pat : PlainAttrs "re.Pattern" :=
  ⟨⟨"object.__getattribute__", by rw [typeLookup_type, builtinLookup_eq_fast]; kernel_rfl, by decide +kernel⟩, by rw [typeLookup_type, builtinLookup_eq_fast]; kernel_rfl⟩
theorem slot_sub : Slot "re.Pattern" "sub" "re.Pattern.sub" :=
  .of (owner := "re.Pattern") (n := "sub") (by rw [typeLookup_type, builtinLookup_eq_fast]; kernel_rfl) (by decide +kernel) (by decide +kernel) (by decide +kernel)
    (by first | exact .inl (by decide +kernel) | exact .inr (by decide +kernel)) (by rw [isSubtype_type]; kernel_rfl)
theorem type_sub : typeOf (.builtin "re.Pattern.sub") = pure (.type "method_descriptor") := by show builtinType _ = _; rw [builtinType_eq_fast]; kernel_rfl
theorem entry_sub : entryFor table "re.Pattern.sub" = some Builtin.«re.Pattern.sub» := entryFor_of_tree (by kernel_rfl)
theorem args_sub (a b c : Value) : argsOk "re.Pattern.sub" ⟨[a, b, c], []⟩ := by
  unfold argsOk
  have e : Manifest.signature? "re.Pattern.sub" = Manifest.signature? "re.Pattern.sub" := rfl
  first
  | kernel_rfl
  | (rw [signature?_of (id := "re.Pattern.sub") (n := ['b', 'u', 's']) (o := ['n', 'r', 'e', 't', 't', 'a', 'P', '.', 'e', 'r']) (by kernel_rfl) (by kernel_rfl)]; kernel_rfl)
theorem look_call : typeLookup (.type "bytes") "__call__" = pure none := by rw [typeLookup_type, builtinLookup_eq_fast]; kernel_rfl
theorem sub_tree {b : Array UInt8} {t u : Tok} {p : Addr} : «re.Pattern.sub» ⟨[.ref p, .bytes #[] u, .bytes b t], []⟩ = (Re.reWholeTarget (.ref p) (.bytes b t) >>= fun _ => newList [] >>= fun l => again (.builtin "re.Pattern.sub.loop" ⟨[.ref p, .bytes b t, .bytes #[] u, rawInt 0, rawInt 0, rawInt 0, rawInt 0, rawInt 0, .bool false, l, .bool false], []⟩)) := by
  unfold «re.Pattern.sub» Re.reSubstitute
  have e1 : Re.reNamed "re.Pattern.sub" "sub" ["repl", "string", "count"] 2 [.bytes #[] u, .bytes b t] [] = pure [some (.bytes #[] u), some (.bytes b t), none] := by
    first | rfl | kernel_rfl
  dsimp only
  rw [e1, pure_bind]
  dsimp only
  rw [pure_bind, KBy.special_eq look_call, pure_bind]
  have e2 : asStr? (.bytes #[] u) = pure none := by first | rfl | kernel_rfl
  show (asStr? (.bytes #[] u) >>= _) = _
  rw [e2, pure_bind]
  dsimp only
  rw [KBy.quiet_eq, pure_bind]
  dsimp only
  rw [pure_bind, if_neg (by decide)]
  have e3 : (!(#[] : Array UInt8).contains 92) = true := by first | rfl | decide | simp
  rw [if_pos e3, pure_bind]
  dsimp only
  first | refine wpAny_no (by decide) ?_ | refine wpC_no (by decide) ?_ | rw [if_neg (by decide)]
  have e4 : ∀ m : Sem Re.ReTarget, holding [Value.bytes #[] u] m = m := fun m => rfl
  rw [e4]
end Byf
end XByp
section XResub
set_option maxRecDepth 100000

example : True := by
  k_with_none
  trivial

open PySem.Builtin PySem.Builtin.Re Byf
section
variable {M : Model} {A : Around} {E : Value → Shared → Prop} {s : Shared}
theorem forIn_quiet {α β : Type} {f : α → β → Sem (ForInStep β)} {b : β} {Q : β → Shared → Prop} (h : ∀ a (Q' : ForInStep β → Shared → Prop), Q' (.yield b) s → wpAny M A (f a b) Q' E s) (hq : Q b s) : ∀ l : List α, wpAny M A (forIn l b f) Q E s
  | [] => by rw [List.forIn_nil]; exact wpAny_pure hq
  | a :: l => by
    rw [List.forIn_cons]
    exact wpAny_bind (h a _ (forIn_quiet h hq l))
theorem drive {m' : Sre.M} {Q : Sre.M → Shared → Prop} (ho : m'.outcome.isSome = true) (hq : Q m' s) : ∀ (turns c : Nat) (m : Sre.M), Rx.Reach c m m' → c < 4 * turns → wpAny M A (reDrive turns m) Q E s
  | 0, c, m, _, h => absurd h (by omega)
  | turns + 1, c, m, ⟨k, hk, hr⟩, h => by
    unfold reDrive
    show wpAny M A (if (m.runFor 4).outcome.isSome = true then pure (m.runFor 4) else (do rule "sre.turn"; reDrive turns (m.runFor 4))) Q E s
    by_cases h4 : (m.runFor 4).outcome.isSome = true
    · first | refine wpAny_yes h4 ?_ | refine wpC_yes h4 ?_ | rw [if_pos h4]
      have e1 : Sre.M.runFor (k + 4) m = m' := by rw [hr]; exact Rx.run_done ho 4
      have e2 : Sre.M.runFor (4 + k) m = m.runFor 4 := by rw [Rx.run_add]; exact Rx.run_done h4 k
      rw [Nat.add_comm] at e1
      rw [← e2, e1]
      exact wpAny_pure hq
    · first | refine wpAny_no h4 ?_ | refine wpC_no h4 ?_ | rw [if_neg h4]
      refine wpAny_bind (wpAny_rule ?_)
      have hk4 : 4 < k := by
        rcases Nat.lt_or_ge 4 k with h5 | h5
        · exact h5
        · exfalso
          refine h4 ?_
          have e : m.runFor 4 = m' := by
            have : Sre.M.runFor (k + (4 - k)) m = m' := by rw [hr]; exact Rx.run_done ho _
            rw [show k + (4 - k) = 4 by omega] at this
            exact this
          rw [e]; exact ho
      refine drive ho hq turns (c - 4) (m.runFor 4) ⟨k - 4, by omega, fun n => ?_⟩ (by omega)
      rw [← hr n, show k + n = 4 + (k - 4 + n) by omega, Rx.run_add 4]
theorem runToEnd {m m' : Sre.M} {c : Nat} {Q : Option Sre.M → Shared → Prop} (r : Rx.Reach c m m') (hc : c < 2 ^ 64) (h : (m'.outcome = some .matched ∧ Q (some m') s) ∨ (m'.outcome = some .failed ∧ Q none s)) : wpAny M A (reRunToEnd m) Q E s := by
  have ho : m'.outcome.isSome = true := by rcases h with ⟨h, _⟩ | ⟨h, _⟩ <;> rw [h] <;> rfl
  unfold reRunToEnd
  refine wpAny_bind (drive ho ?_ (2 ^ 64) c m r (by omega))
  refine wpAny_bind (forIn_quiet (fun i Q' hq => ?_) ?_ _)
  · split
    · exact wpAny_bind (wpAny_rule (wpAny_pure hq))
    · first | exact wpAny_pure hq | exact wpAny_bind (wpAny_pure (wpAny_pure hq))
  · rcases h with ⟨h, hq⟩ | ⟨h, hq⟩ <;> rw [h] <;> exact wpAny_pure hq
theorem lk222 (P : Params) : (Mine.hd.heap_39 P).lookup 222 = some { cls := .type "re.Pattern", data := .fields #[.bytes #[34, 40, 63, 58, 91, 94, 34, 92, 92, 93, 124, 92, 92, 46, 41, 42, 43, 34] 531, .int 0 572, .int 0 0, .none, .none, .ref 221, .int 1 0] } := by kernel_rfl
theorem lk221 (P : Params) : (Mine.hd.heap_39 P).lookup 221 = some { cls := .type "tuple", data := .seq (Rx.qc.map fun (k : Nat) => Value.int (k : Int) 0) } := by kernel_rfl
noncomputable def tgt (b : Array UInt8) (t : Tok) : ReTarget := { pattern := .ref 222, string := .bytes b t, code := Rx.qc, text := b.map (·.toNat), kind := 1, groups := 0, pos := 0, lim := (b.map (·.toNat)).size }
theorem wholeT {P : Params} {b : Array UInt8} {t : Tok} {Q : ReTarget → Shared → Prop} (X : (Mine.hd.heap_39 P).In s.heap) (h : Q (tgt b t) s) : wpAny M A (reWholeTarget (.ref 222) (.bytes b t)) Q E s := by
  unfold reWholeTarget
  refine wpAny_bind (wpAny_fieldsOf (X _ _ (lk222 P)) rfl ?_)
  unfold reTextOf
  refine wpAny_bind (wpAny_bind (wpAny_of_eq (a := none) rfl ?_))
  dsimp only
  refine wpAny_bind (wpAny_of_eq KBy.quiet_eq ?_)
  dsimp only
  refine wpAny_pure ?_
  show wpAny _ _ (if false = true then _ else (if false = true then _ else _)) _ _ _
  rw [if_neg Bool.false_ne_true, if_neg Bool.false_ne_true]
  unfold reNoCollectionInside
  show wpAny _ _ ((if true = true then (isInstance (.bytes b t) (.type "bytes") >>= _) else _) >>= _) _ _ _
  rw [if_pos rfl, KBy.isInstance_eq]
  refine wpAny_bind (wpAny_bind (wpAny_pure ?_))
  refine wpAny_no (Bool.false_ne_true) ?_
  refine wpAny_pure ?_
  unfold reRawItems
  refine wpAny_bind (wpAny_bind (wpAny_seqItems (X _ _ (lk221 P)) rfl (wpAny_pure (wpAny_pure ?_))))
  have e : ((((some (Rx.qc.map fun (k : Nat) => Value.int (k : Int) 0)).getD #[]).map reRawOf).map (·.toNat)) = Rx.qc := by decide +kernel
  unfold tgt at h
  rw [← e] at h
  exact h
end
theorem slice_at {T : Array Nat} {s : Nat} {l : List Nat} (h : Rx.At T s l) (hl : s + l.length ≤ T.size) : T.extract s (s + l.length) = l.toArray := by
  apply Array.toList_inj.mp
  apply List.ext_getElem?
  intro i
  by_cases hi : i < l.length
  · have h1 := h i l[i] (List.getElem?_eq_getElem hi)
    rw [Array.getElem?_toList, Array.getElem?_extract, if_pos (by omega), List.getElem?_eq_getElem hi]
    have : s + i < T.size := by omega
    rw [Array.getElem?_eq_getElem this]
    congr 1
    rw [← h1]
    simp [Array.getD, this]
  · rw [List.getElem?_eq_none (by simp; omega), List.getElem?_eq_none (by simpa using hi)]
section
variable {prog : Program} {w : World} {A : Around} {E : Value → Shared → Prop} {s : Shared} {D L : Addr} {h₀ : Heap} {m : Str → Option Value} {led : List (Addr × Obj)} {ws : List Value} {n : Nat}
theorem upd_led {M : Model} {x : Value} {Q : Unit → Shared → Prop} (F : Fr h₀ L s.heap m) (N : News h₀ L s.heap led) (hm : (D, listOf ws.toArray n) ∈ led) (hz : ws.length < 2 ^ 19)
    (h : ∀ h' led' n', Fr h₀ L h' m → News h₀ L h' led' → (D, listOf (ws ++ [x]).toArray n') ∈ led' → (∀ p ∈ led, p.1 ≠ D → p ∈ led') → Q () { s with heap := h' }) : wpAny M A (updateSeq D (·.push x)) Q E s := by
  obtain ⟨U1, U2⟩ := news_turn (f := Obj.mapSeq fun xs => xs.push x) (o' := listOf (ws ++ [x]).toArray (if ((ws.toArray.push x).size == ws.toArray.size) = true then n else n + 1)) F N hm (by rw [← List.push_toArray]; rfl) rfl
  refine wpAny_updateSeq (N _ hm).1 rfl (h _ _ _ U1 U2 turnTo_new fun p hp hn => turnTo_old hp hn) ?_ ?_
  · rw [sizeLine_eq, List.size_toArray]; omega
  · rw [sizeLine_eq, Array.size_push, List.size_toArray]; omega
end
theorem quiet_sub (args : Args) : (Code.builtin "re.Pattern.sub.loop" args).quiet = true := by first | kernel_rfl | (unfold Code.quiet; decide +kernel)
theorem entry_subloop : entryFor table "re.Pattern.sub.loop" = some Builtin.«re.Pattern.sub.loop» := entryFor_of_tree (by kernel_rfl)
section
variable {prog : Program} {w : World} {A : Around} {E : Value → Shared → Prop} {s : Shared} {D L : Addr} {h₀ : Heap} {m : Str → Option Value} {led : List (Addr × Obj)} {ws : List Value} {n : Nat}
theorem joinB {bs : List (Array UInt8)} {u : Tok} {Q : Value → Shared → Prop} (F : Fr h₀ L s.heap m) (N : News h₀ L s.heap led) (hm : (D, listOf ws.toArray n) ∈ led) (hb : ByAre ws bs) (hz : ws.length < 2 ^ 12) (hz2 : (catB bs).length < 2 ^ 20)
    (h : ∀ s' t', Fr h₀ L s'.heap m → News h₀ L s'.heap led → Goes s s' → Q (.bytes (catB bs).toArray t') s') : wpAny (model prog w) A (call (.builtin "bytes.join") [.bytes #[] u, .ref D]) Q E s := by
  exact Byf.join (N _ hm).1 hb hz2 fun t' k => h { s with toks := k } t' F N (Goes.same _ _)
theorem subTail {b : Array UInt8} {t : Tok} {cnt : Int} {ws1 : List Value} {bs1 : List (Array UInt8)} {n1 : Nat} {led1 : List (Addr × Obj)} {s1 : Shared} {R : Result → Shared → Prop} {A₁ : Around} {E' : Value → Shared → Prop} (F1 : Fr h₀ L s1.heap m) (N1 : News h₀ L s1.heap led1) (hm1 : (D, listOf ws1.toArray n1) ∈ led1) (hb1 : ByAre ws1 bs1)
    (hz : ws1.length < 2 ^ 12) (hz2 : (catB bs1).length < 2 ^ 20) (hfin : ∀ s' t', Fr h₀ L s'.heap m → News h₀ L s'.heap led1 → Goes s1 s' → R (.ok (.ret (.bytes (catB bs1).toArray t'))) s') :
    wpAny (model prog w) A (do
      let joiner ← reSlice (tgt b t).text (tgt b t).kind 0 0
      let text ← if ((← seqItems? (.ref D)).getD #[]).isEmpty then pure joiner
        else call (.builtin (if (tgt b t).kind == 0 then "str.join" else "bytes.join")) [joiner, .ref D]
      if false then ret (← holding [text] do newTuple [text, ← mkInt cnt]) else ret text) (fun fin s' => match fin with
        | .done f => R (.ok f) s'
        | .again c' => c'.quiet = true ∧ codeAny (model prog w) A₁ c' R s') E' s1 := by
  refine wpAny_bind ?_
  show wpAny _ _ (mkBytes (((tgt b t).text.extract 0 0).map (·.toUInt8))) _ _ _
  refine wpAny_mkBytes ?_ (by simp)
  refine wpAny_bind (wpAny_seqItems (s := { s1 with toks := s1.toks + 1 }) (N1 _ hm1).1 rfl ?_)
  dsimp only [Option.getD_some]
  have ej : ((tgt b t).text.extract 0 0).map (·.toUInt8) = #[] := by simp
  rw [ej]
  cases ws1 with
  | nil =>
    cases hb1
    refine wpAny_yes (rfl) ?_
    refine wpAny_bind (wpAny_pure ?_)
    refine wpAny_no (Bool.false_ne_true) ?_
    refine wpAny_pure ?_
    exact hfin { s1 with toks := s1.toks + 1 } _ F1 N1 (Goes.same _ _)
  | cons w0 wr =>
    refine wpAny_no (Bool.false_ne_true) ?_
    refine wpAny_bind ?_
    show wpAny _ _ (call (.builtin "bytes.join") [.bytes #[] _, .ref D]) _ _ _
    refine joinB (s := { s1 with toks := s1.toks + 1 }) F1 N1 hm1 hb1 (by omega) (by omega) ?_
    intro s9 t9 F9 N9 G9
    refine wpAny_no (Bool.false_ne_true) ?_
    refine wpAny_pure ?_
    exact hfin s9 t9 F9 N9 ((Goes.same _ _).trans G9)
set_option maxHeartbeats 2000000 in
theorem subLoop {P : Params} (X₀ : (Mine.hd.heap_39 P).In h₀) {b : Array UInt8} {t u : Tok} (hbz : b.size < 2 ^ 16) {R : Result → Shared → Prop} :
    ∀ (k : Nat) (l : List Rx.Tk) (p : Nat) (ws : List Value) (bs : List (Array UInt8)) (n : Nat) (cnt : Int) (s : Shared) (led : List (Addr × Obj)), l.length < k → Fr h₀ L s.heap m → News h₀ L s.heap led → (D, listOf ws.toArray n) ∈ led → ByAre ws bs →
      Rx.At (b.map (·.toNat)) p (Rx.txt l) → p + (Rx.txt l).length = (b.map (·.toNat)).size → (∀ t ∈ l, t.ok) → ws.length + 2 * l.length + 1 < 2 ^ 12 → (catB bs).length + (Rx.txt l).length < 2 ^ 20 →
      (∀ s' led' t', Fr h₀ L s'.heap m → News h₀ L s'.heap led' → Goes s s' → (∀ q ∈ led, q.1 ≠ D → q ∈ led') → R (.ok (.ret (.bytes (catB bs ++ (Rx.gaps l).map (·.toUInt8)).toArray t'))) s') →
      codeAny (model prog w) A (.builtin "re.Pattern.sub.loop" ⟨[.ref 222, .bytes b t, .bytes #[] u, rawInt 0, rawInt 0, rawInt cnt, rawInt p, rawInt p, .bool false, .ref D, .bool false], []⟩) R s := by
  intro k
  induction k with
  | zero =>
    intro l p ws bs n cnt s led hl
    exact absurd hl (Nat.not_lt_zero _)
  | succ k ih =>
    intro l p ws bs n cnt s led hl F N hm hb hat hp hok hz hz2 hret
    refine codeAny_builtin entry_subloop ?_
    unfold Builtin.«re.Pattern.sub.loop»
    dsimp only [rawInt]
    refine wpAny_bind (wholeT (X₀.keeps F.keep) ?_)
    refine wpAny_yes (rfl) ?_
    unfold reLiteralCannotBeTurned
    refine wpAny_bind ?_
    refine wpAny_bind (wpAny_of_eq (a := none) rfl ?_)
    refine wpAny_yes rfl ?_
    rw [KBy.isInstance_eq]
    refine wpAny_bind (wpAny_pure ?_)
    refine wpAny_no (Bool.false_ne_true) ?_
    refine wpAny_pure ?_
    obtain ⟨m', r, hf⟩ := Rx.search l p hat hp hok
    refine wpAny_bind ?_
    refine wpAny_ite ?_
    first | refine wpAny_no (show ¬ (((0 : Int) != 0 && decide (cnt ≥ 0)) = true) from fun h => by simp at h) ?_ | refine wpC_no (show ¬ (((0 : Int) != 0 && decide (cnt ≥ 0)) = true) from fun h => by simp at h) ?_ | rw [if_neg (show ¬ (((0 : Int) != 0 && decide (cnt ≥ 0)) = true) from fun h => by simp at h)]
    unfold reNextFound
    refine runToEnd r (by omega) ?_
    unfold Rx.Found at hf
    have hft := Rx.first_txt l
    have hfg := Rx.first_gaps l
    have hfo := Rx.first_ok hok
    cases hq : (Rx.first l).2 with
    | none =>
      rw [hq] at hf hft hfg
      refine .inr ⟨hf, ?_⟩
      dsimp only
      dsimp only at hft hfg
      rw [List.append_nil] at hft hfg
      have hgl : (Rx.txt l).length = (Rx.gaps l).length := by rw [hft, hfg]
      by_cases hp0 : p < (b.map (·.toNat)).size
      · refine wpAny_yes (hp0) ?_
        refine wpAny_bind ?_
        have es : ((b.map (·.toNat)).extract p (b.map (·.toNat)).size) = (Rx.gaps l).toArray := by
          rw [← hp, slice_at hat (Nat.le_of_eq hp), hft, hfg]
        show wpAny _ _ (mkBytes (((b.map (·.toNat)).extract p (b.map (·.toNat)).size).map (·.toUInt8))) _ _ _
        rw [es]
        refine wpAny_mkBytes ?_ (by rw [sizeLine_eq, Array.size_map, List.size_toArray]; omega)
        refine wpAny_bind (upd_led (s := { s with toks := s.toks + 1 }) F N hm (by omega) ?_)
        intro h1 led1 n1 F1 N1 hm1 hk1
        have hcat : catB (bs ++ [(Rx.gaps l).toArray.map (·.toUInt8)]) = catB bs ++ (Rx.gaps l).map (·.toUInt8) := by rw [catB_push]; simp
        refine subTail (cnt := cnt) F1 N1 hm1 (hb.push _ _) (by rw [List.length_append, List.length_singleton]; omega) (by rw [hcat, List.length_append, List.length_map]; omega) ?_
        intro s' t' F' N' G'
        rw [hcat]
        exact hret s' led1 t' F' N' ((Goes.same _ _).trans G') hk1
      · refine wpAny_no (hp0) ?_
        have hg0 : Rx.gaps l = [] := List.length_eq_zero_iff.mp (by omega)
        refine subTail (cnt := cnt) F N hm hb (by omega) (by omega) ?_
        intro s' t' F' N' G'
        have := hret s' led t' F' N' G' fun q hq _ => hq
        rw [hg0, List.map_nil, List.append_nil] at this
        exact this
    | some q =>
      obtain ⟨kq, rest⟩ := q
      rw [hq] at hf hft hfg
      obtain ⟨σ', b', rfl⟩ := hf
      refine .inl ⟨rfl, ?_⟩
      dsimp only
      dsimp only at hft hfg
      generalize hgg : (Rx.first l).1 = g at *
      have hlr : rest.length < l.length := Rx.first_len hq
      have hql := Rx.qTxt_len kq
      have hat0 : Rx.At (b.map (·.toNat)) p (g ++ (Rx.qTxt kq ++ Rx.txt rest)) := by rw [← hft]; exact hat
      have hat2 : Rx.At (b.map (·.toNat)) (p + g.length + (Rx.qTxt kq).length) (Rx.txt rest) := hat0.app.app
      have hlen : (Rx.txt l).length = g.length + ((Rx.qTxt kq).length + (Rx.txt rest).length) := by rw [hft, List.length_append, List.length_append]
      by_cases hg : 0 < g.length
      · refine wpAny_yes (show p < p + g.length by omega) ?_
        refine wpAny_bind ?_
        show wpAny _ _ (mkBytes (((b.map (·.toNat)).extract p (p + g.length)).map (·.toUInt8))) _ _ _
        rw [slice_at hat0.left (by omega)]
        refine wpAny_mkBytes ?_ (by rw [sizeLine_eq, Array.size_map, List.size_toArray]; omega)
        refine wpAny_bind (upd_led (s := { s with toks := s.toks + 1 }) F N hm (by omega) ?_)
        intro h1 led1 n1 F1 N1 hm1 hk1
        have hcat : catB (bs ++ [g.toArray.map (·.toUInt8)]) = catB bs ++ g.map (·.toUInt8) := by rw [catB_push]; simp
        refine wpAny_yes (rfl) ?_
        refine wpAny_bind (wpAny_pure ?_)
        refine wpAny_yes (rfl) ?_
        refine wpAny_bind (upd_led F1 N1 hm1 (by simp only [List.length_append, List.length_singleton]; omega) ?_)
        intro h2 led2 n2 F2 N2 hm2 hk2
        refine wpAny_pure ⟨quiet_sub _, ?_⟩
        have em : ((p + g.length + (Rx.qTxt kq).length) == (p + g.length)) = false := by
          rw [beq_eq_false_iff_ne]; omega
        show codeAny _ _ (.builtin "re.Pattern.sub.loop" ⟨[.ref 222, .bytes b t, .bytes #[] u, rawInt 0, rawInt 0, rawInt (cnt + 1), rawInt ((p + g.length + (Rx.qTxt kq).length : Nat) : Int), rawInt ((p + g.length + (Rx.qTxt kq).length : Nat) : Int), .bool ((p + g.length + (Rx.qTxt kq).length) == (p + g.length)), .ref D, .bool false], []⟩) R _
        rw [em]
        refine ih rest (p + g.length + (Rx.qTxt kq).length) _ _ n2 (cnt + 1) { s with heap := h2, toks := s.toks + 1 } led2 (by omega) F2 N2 hm2 ((hb.push _ _).push _ _) hat2 (by omega) (hfo.2 kq rest hq) (by simp only [List.length_append, List.length_singleton]; omega) ?_ ?_
        · rw [catB_push, hcat]
          simp only [List.length_append, List.length_map, List.size_toArray, Array.toList_empty, List.length_nil]
          omega
        · intro s' led' t' F' N' G' hk'
          have e9 : catB ((bs ++ [g.toArray.map (·.toUInt8)]) ++ [#[]]) ++ (Rx.gaps rest).map (·.toUInt8) = catB bs ++ (Rx.gaps l).map (·.toUInt8) := by
            rw [catB_push, hcat, hfg]
            simp
          rw [e9]
          exact hret s' led' t' F' N' ((Goes.same _ _).trans G') fun q hq hn => hk' q (hk2 q (hk1 q hq hn) hn) hn
      · have hg0 : g = [] := List.length_eq_zero_iff.mp (by omega)
        refine wpAny_no (show ¬ p < p + g.length by omega) ?_
        have hcat : catB bs = catB bs := rfl
        refine wpAny_yes (rfl) ?_
        refine wpAny_bind (wpAny_pure ?_)
        refine wpAny_yes (rfl) ?_
        refine wpAny_bind (upd_led F N hm (by omega) ?_)
        intro h2 led2 n2 F2 N2 hm2 hk2
        refine wpAny_pure ⟨quiet_sub _, ?_⟩
        have em : ((p + g.length + (Rx.qTxt kq).length) == (p + g.length)) = false := by
          rw [beq_eq_false_iff_ne]; omega
        show codeAny _ _ (.builtin "re.Pattern.sub.loop" ⟨[.ref 222, .bytes b t, .bytes #[] u, rawInt 0, rawInt 0, rawInt (cnt + 1), rawInt ((p + g.length + (Rx.qTxt kq).length : Nat) : Int), rawInt ((p + g.length + (Rx.qTxt kq).length : Nat) : Int), .bool ((p + g.length + (Rx.qTxt kq).length) == (p + g.length)), .ref D, .bool false], []⟩) R _
        rw [em]
        refine ih rest (p + g.length + (Rx.qTxt kq).length) _ _ n2 (cnt + 1) { s with heap := h2 } led2 (by omega) F2 N2 hm2 (hb.push _ _) hat2 (by omega) (hfo.2 kq rest hq) (by simp only [List.length_append, List.length_singleton]; omega) ?_ ?_
        · rw [catB_push]
          have e8 : (catB bs ++ (#[] : Array UInt8).toList).length = (catB bs).length := by simp
          rw [e8]
          omega
        · intro s' led' t' F' N' G' hk'
          have e9 : catB (bs ++ [#[]]) ++ (Rx.gaps rest).map (·.toUInt8) = catB bs ++ (Rx.gaps l).map (·.toUInt8) := by
            rw [catB_push, hfg, hg0]
            simp
          rw [e9]
          exact hret s' led' t' F' N' ((Goes.same _ _).trans G') fun q hq hn => hk' q (hk2 q hq hn) hn
theorem nil_at (T : Array Nat) (p : Nat) : Rx.At T p [] := fun i x h => by cases h
theorem txt_len (l : List Rx.Tk) : l.length ≤ (Rx.txt l).length := by
  induction l with
  | nil => exact Nat.zero_le _
  | cons t l ih =>
    show l.length + 1 ≤ (t.txt ++ Rx.txt l).length
    rw [List.length_append]
    have : 1 ≤ t.txt.length := by
      cases t with
      | g c => exact Nat.le_refl _
      | q k => have := Rx.qTxt_len k; show 1 ≤ (Rx.qTxt k).length; omega
    omega
theorem subC {P : Params} (X₀ : (Mine.hd.heap_39 P).In h₀) (F : Fr h₀ L s.heap m) (N : News h₀ L s.heap led) {b : Array UInt8} {t u : Tok} (l : List Rx.Tk) (hbl : b.map (·.toNat) = (Rx.txt l).toArray) (hok : ∀ t ∈ l, t.ok) (hbz : b.size < 2 ^ 10) {Q : Value → Shared → Prop}
    (h : ∀ s' led' t', Fr h₀ L s'.heap m → News h₀ L s'.heap led' → Goes s s' → (∀ q ∈ led, q ∈ led') → Q (.bytes ((Rx.gaps l).map (·.toUInt8)).toArray t') s') :
    wpAny (model prog w) A (call (.builtin "re.Pattern.sub") [.ref 222, .bytes #[] u, .bytes b t]) Q E s := by
  refine wpAny_call (codeAny_call_builtin Byf.slot_sub.plain Byf.entry_sub (Byf.slot_sub.check _ _ _ _ _ _ _ _ ⟨_, X₀.keeps F.keep _ _ (lk222 P), rfl⟩ (Byf.args_sub _ _ _) ?_))
  rw [Byf.sub_tree]
  refine wpAny_bind (wholeT (X₀.keeps F.keep) ?_)
  refine wpAny_bind (newList_N F N ?_)
  intro h1 F1 N1
  refine wpAny_pure ⟨quiet_sub _, ?_⟩
  have hlen : (Rx.txt l).length = b.size := by
    have := congrArg Array.size hbl
    simpa using this.symm
  have htl := txt_len l
  refine subLoop (b := b) X₀ (by omega) (l.length + 1) l 0 [] [] 0 0 { s with heap := h1 } ((s.heap.objs.size, listOf #[] 0) :: led) (by omega) F1 N1 (.head _) .nil ?_ ?_ hok (by show 0 + 2 * l.length + 1 < _; omega) (by show 0 + _ < _; omega) ?_
  · rw [hbl]
    intro i x hi
    rw [Nat.zero_add]
    simp [Array.getD_eq_getD_getElem?, hi]
  · rw [Nat.zero_add, hlen, Array.size_map]
  · intro s' led' t' F' N' G' hk'
    have := h s' led' t' F' N' ((Goes.same _ _).trans G') fun q hq => hk' q (.tail _ hq) (Nat.ne_of_lt (Heap.lt_size (N q hq).1))
    exact this
end
end XResub
section XParen
set_option maxRecDepth 100000

example : True := by
  k_with_none
  trivial

example : True := by
  k_with "getMethod ref" => (k_here; (with_reducible show wpAny _ _ (getMethod (Value.ref _) (PySem.Str.ofString "sub") _) _ _ _); refine Held.mk ?_)
  k_with "getMethod bytes" => (k_here; (with_reducible show wpAny _ _ (getMethod (Value.bytes _ _) (PySem.Str.ofString "count") _) _ _ _); refine Byf.countM ?_)
  k_with "call builtin:re.Pattern.sub" => refine Held.mk ?_
  k_with "call builtin:bytes.count" => (k_here; refine Byf.count ?_; intro _ _)
  trivial
theorem obj222 (P : Params) : ∃ o, (Mine.hd.heap_39 P).lookup 222 = some o ∧ o.cls = .type "re.Pattern" ∧ o.dict = none := ⟨_, lk222 P, rfl, rfl⟩
section
variable {prog : Program} {w : World} {p : Program} {loose : List Str} {mean : ExcName → Option Value} {mg mb : Str → Option Value}
set_option maxHeartbeats 8000000 in
theorem parenC {dp un : Nat} {gd : Option (List Code)} {cn : Str} {cs : Scope} {a : Addr} {ccd : Value} {cl : List (Str × Addr)} {outer : List Env} {A₀ : Around} {base h₀ : Heap} {L : Addr} {m : Str → Option Value} {s : Shared} {Q E : Value → Shared → Prop} {news : List (Addr × Obj)} {b : Array UInt8} {t tk : Tok} {k : Int} (l : List Rx.Tk)
    (B : Below A₀ base outer h₀) (F : Fr h₀ L s.heap m) (X : (Mine.hd.heap_39 w.params).In h₀) (N : News h₀ L s.heap news) (T : Top p loose mean mg mb h₀) (hk : cs.kind = .function) (hbl : b.map (·.toNat) = (Rx.txt l).toArray) (hok : ∀ t ∈ l, t.ok) (hbz : b.size < 2 ^ 10) (hk0 : 0 ≤ k) (hk1 : k < 2 ^ 20)
    (hd : dp + 20 < recursionLimit) (hu : un + 150 < cLine)
    (hret : ∀ s' led' t', Fr h₀ L s'.heap m → News h₀ L s'.heap led' → Goes s s' → (∀ q ∈ news, q ∈ led') → Q (.int (k + (((Rx.gaps l).map (·.toUInt8)).count 40 : Nat) - (((Rx.gaps l).map (·.toUInt8)).count 41 : Nat)) t') s') :
    wpAny (model prog w) (ktrTop dp un gd cn cs L a ccd cl outer) (call (.ref 230) [.bytes b t, .int k tk]) Q E s := by
  refine wpAny_call ?_
  k_dflt (refine' code_def ?k1 ?k2 ?k3 ?k4 ?k5 ?kA ?kF ?kK ?k6 ?k7 ?k8 ?k9 ?kB ?_ ?c2 ?c3 ?c4 ?c5; (case kA => exact rfl); (case kF => exact rfl); (case kK => first | assumption | exact rfl); (case k1 => k_asm); (case k2 => k_asm); (case k3 => k_asm); (case k4 => k_asm); (case k5 => k_asm); (case k6 => k_is); (case k7 => k_is); (case k8 => ktr_room); (case k9 => first | exact BindsTo.of_eq rfl | exact binds_K (by k_in) rfl (by k_is) rfl rfl rfl | (refine' kp_binds ?kx ?ke; (case kx => k_in); (case ke => exact fun _ => rfl)) | fail "x_enter: no rule for these arguments"); (case c5 => decide); (case kB => exact locs rfl); (case c2 => exact rfl); (case c3 => exact rfl); (case c4 => exact rfl); k_whole; intro g' L' h' FG' F' N' B' X' T'; (try dsimp only); (try k_lift B'); (try k_fold))
  k_steps
  refine Held.out ?_
  k_here
  obtain ⟨o, ho, hoc, hod⟩ := obj222 w.params
  refine getMethod_builtin (T := "re.Pattern") ⟨o, X'.keeps F'.keep _ _ ho, hoc⟩ Byf.plainAttrs_pat Byf.slot_sub Byf.type_sub (fun a e => ⟨o, by cases e; exact X'.keeps F'.keep _ _ ho, hod⟩) ?_
  k_steps
  refine Held.out ?_
  k_here
  refine subC X' (F := by k_asm) (N := by k_asm) l hbl hok hbz ?_
  intro s5 led5 t5 F5 N5 G5 hk5
  k_steps
  exact hret _ led5 _ (by k_asm) (by k_asm) (Goes.trans (Goes.same _ _) (G5.trans (Goes.same _ _))) hk5
end
end XParen
section XShape
set_option maxRecDepth 100000

structure BSt where
  bs : List Bool
  pars : List Int
  opd : List Int
  cls : List Int
noncomputable def FSt.b (st : FSt) : BSt := ⟨st.pcs.map (·.2), st.pars, st.opd, st.cls⟩
noncomputable def openB (q : BSt) : BSt := ⟨q.bs ++ [true], q.pars ++ [if q.opd = [] then 0 else q.opd.getD (q.opd.length - 1) 0], q.opd ++ [(q.pars.length : Int)], q.cls⟩
noncomputable def openNB : Nat → BSt → BSt
  | 0, q => q
  | n + 1, q => openB (openNB n q)
noncomputable def shutB (q : BSt) : BSt := ⟨q.bs ++ [false], q.pars, q.opd.dropLast, q.cls ++ [q.opd.getD (q.opd.length - 1) 0]⟩
noncomputable def turnB (st : BSt) (k : Nat) : BSt := shutB (openNB (k + if st.opd = [] then 1 else 0) st)
noncomputable def finishB : Nat → BSt → BSt
  | 0, st => st
  | n + 1, st => shutB (finishB n st)
noncomputable def midB (ks : List Nat) : BSt := ks.foldl turnB ⟨[], [0], [], []⟩
noncomputable def forestB (ks : List Nat) : BSt := finishB (midB ks).opd.length (midB ks)
noncomputable def kOf (d : Int) : Nat := (Int.fmod d 3).toNat
theorem kOf_lt (d : Int) : kOf d < 3 := by
  have h1 : 0 ≤ Int.fmod d 3 := Int.fmod_nonneg_of_pos _ (by decide)
  have h2 : Int.fmod d 3 < 3 := Int.fmod_lt_of_pos _ (by decide)
  unfold kOf; omega
theorem openN_b (st : FSt) (r : Int) : ∀ n, (openN n (st, r)).1.b = openNB n st.b
  | 0 => rfl
  | n + 1 => by
    have ih := openN_b st r n
    show (openStep (openN n (st, r))).1.b = openB (openNB n st.b)
    rw [← ih]
    unfold openStep FSt.b openB
    simp
theorem shut_b (q : FSt × Int) : (shut q).b = shutB q.1.b := by
  unfold shut FSt.b shutB
  simp
theorem turn_b (st : FSt) (d : Int) : (drawTurn st d).b = turnB st.b (kOf d) := by
  unfold drawTurn turnB
  rw [shut_b, openN_b]
  have h1 : 0 ≤ Int.fmod d 3 := Int.fmod_nonneg_of_pos _ (by decide)
  have e : (countOf st d).toNat = kOf d + if st.b.opd = [] then 1 else 0 := by
    unfold countOf kOf
    show (Int.fmod d 3 + if st.opd = [] then (1 : Int) else 0).toNat = (Int.fmod d 3).toNat + if st.opd = [] then 1 else 0
    split <;> omega
  rw [e]
theorem mid_b : ∀ (ds : List Int) (st : FSt), (ds.foldl drawTurn st).b = (ds.map kOf).foldl turnB st.b
  | [], st => rfl
  | d :: ds, st => by
    rw [List.foldl_cons, List.map_cons, List.foldl_cons, mid_b ds, turn_b]
theorem finish_b (st : FSt) : ∀ n, (finishN n st).b = finishB n st.b
  | 0 => rfl
  | n + 1 => by
    show (shut (finishN n st, 0)).b = shutB (finishB n st.b)
    rw [shut_b, finish_b st n]
theorem forest_b (ds : List Int) : (forestOf ds).b = forestB (ds.map kOf) := by
  have e : (forestMid ds).b = midB (ds.map kOf) := mid_b ds _
  unfold forestOf forestB
  rw [finish_b, ← e]
  rfl
noncomputable def MarksOk (st : FSt) : Prop := ∀ p ∈ st.pcs, 0 ≤ p.1 ∧ p.1 < 4
theorem fmod4 (r : Int) : 0 ≤ Int.fmod r 4 ∧ Int.fmod r 4 < 4 := ⟨Int.fmod_nonneg_of_pos _ (by decide), Int.fmod_lt_of_pos _ (by decide)⟩
theorem marks_app {l : List (Int × Bool)} {r : Int} {b : Bool} (h : ∀ p ∈ l, 0 ≤ p.1 ∧ p.1 < 4) : ∀ p ∈ l ++ [(Int.fmod r 4, b)], 0 ≤ p.1 ∧ p.1 < 4 := fun p hp => by
  rcases List.mem_append.mp hp with hp | hp
  · exact h p hp
  · rw [List.mem_singleton.mp hp]; exact fmod4 r
theorem openN_marks {st : FSt} (r : Int) (h : MarksOk st) : ∀ n, MarksOk (openN n (st, r)).1
  | 0 => h
  | n + 1 => marks_app (openN_marks r h n)
theorem shut_marks {q : FSt × Int} (h : MarksOk q.1) : MarksOk (shut q) := marks_app h
theorem mid_marks : ∀ (ds : List Int) (st : FSt), MarksOk st → MarksOk (ds.foldl drawTurn st)
  | [], _, h => h
  | d :: ds, st, h => mid_marks ds _ (shut_marks (openN_marks _ h _))
theorem finish_marks {st : FSt} (h : MarksOk st) : ∀ n, MarksOk (finishN n st)
  | 0 => h
  | n + 1 => shut_marks (q := (finishN n st, 0)) (finish_marks h n)
theorem forest_marks (ds : List Int) : MarksOk (forestOf ds) := finish_marks (mid_marks ds _ fun p hp => by cases hp) _
noncomputable def endsC {α : Type} (f : α → Bool) (l : List α) : Bool := match l.getLast? with
  | some x => !f x
  | none => false
theorem endsC_map {α β : Type} (g : α → β) (f : β → Bool) (l : List α) : endsC f (l.map g) = endsC (f ∘ g) l := by
  unfold endsC
  rw [List.getLast?_map]
  cases l.getLast? <;> rfl
noncomputable def grp {α : Type} (f : α → Bool) (q : List (List α) × List α) (p : α) : List (List α) × List α :=
  if endsC f q.2 = true then (q.1 ++ [q.2], [p]) else (q.1, q.2 ++ [p])
noncomputable def rowsOf {α : Type} (f : α → Bool) (ps : List α) : List (List α) := (ps.foldl (grp f) ([], [])).1 ++ [(ps.foldl (grp f) ([], [])).2]
theorem grp_map {α β : Type} (g : α → β) (f : β → Bool) (q : List (List α) × List α) (p : α) : ((grp (f ∘ g) q p).1.map (·.map g), (grp (f ∘ g) q p).2.map g) = grp f (q.1.map (·.map g), q.2.map g) (g p) := by
  unfold grp
  dsimp only
  rw [endsC_map]
  cases endsC (f ∘ g) q.2 <;> simp
theorem fold_map {α β : Type} (g : α → β) (f : β → Bool) : ∀ (l : List α) (q : List (List α) × List α), ((l.foldl (grp (f ∘ g)) q).1.map (·.map g), (l.foldl (grp (f ∘ g)) q).2.map g) = (l.map g).foldl (grp f) (q.1.map (·.map g), q.2.map g)
  | [], q => rfl
  | p :: l, q => by
    rw [List.foldl_cons, List.map_cons, List.foldl_cons, fold_map g f l, grp_map]
theorem rows_map {α β : Type} (g : α → β) (f : β → Bool) (l : List α) : (rowsOf (f ∘ g) l).map (·.map g) = rowsOf f (l.map g) := by
  have h := fold_map g f l ([], [])
  unfold rowsOf
  rw [List.map_append, List.map_singleton]
  show _ = ((l.map g).foldl (grp f) (([] : List (List α)).map (·.map g), ([] : List α).map g)).1 ++ [((l.map g).foldl (grp f) (([] : List (List α)).map (·.map g), ([] : List α).map g)).2]
  rw [← h]
noncomputable def readB (st : List Int × Nat × List Int) (row : List Bool) : List Int × Nat × List Int :=
  let o := row.count true
  let wt := st.1 ++ (List.range o).map fun (i : Nat) => ((st.2.1 + i + 1 : Nat) : Int)
  (wt.dropLast, st.2.1 + o, st.2.2 ++ [wt.getD (wt.length - 1) 0])
noncomputable def wordB (bs : List Bool) : List Int := ((rowsOf id bs).foldl readB ([], 0, [])).2.2
end XShape
section XRows
open PySem.StrLaws

theorem cut_uniq {c : Nat} : ∀ {a a' x x' : List Nat}, c ∉ a → c ∉ a' → a ++ c :: x = a' ++ c :: x' → a = a' ∧ x = x'
  | [], [], x, x', _, _, h => ⟨rfl, (List.cons.inj h).2⟩
  | [], d :: r, x, x', _, h2, h => absurd (List.cons.inj h).1 (fun e => h2 (by rw [e]; exact .head _))
  | d :: r, [], x, x', h1, _, h => absurd (List.cons.inj h).1 (fun e => h1 (by rw [e]; exact .head _))
  | d :: r, d' :: r', x, x', h1, h2, h => by
    obtain ⟨e1, e2⟩ := List.cons.inj h
    obtain ⟨e3, e4⟩ := cut_uniq (fun m => h1 (.tail _ m)) (fun m => h2 (.tail _ m)) e2
    exact ⟨by rw [e1, e3], e4⟩
theorem str_ext {a b : Str} (h : a.cps.toList = b.cps.toList) : a = b := by
  cases a; cases b
  exact congrArg Str.mk (Array.toList_inj.mp h)
theorem app_list (a b : Str) : (a ++ b).cps.toList = a.cps.toList ++ b.cps.toList := by
  show (a.cps ++ b.cps).toList = _
  simp
theorem join_uniq {c : Nat} : ∀ {A B : List Str}, A ≠ [] → B ≠ [] → (∀ p ∈ A, c ∉ p.cps.toList) → (∀ p ∈ B, c ∉ p.cps.toList) → Str.join ⟨#[c]⟩ A = Str.join ⟨#[c]⟩ B → A = B
  | [], _, h, _, _, _, _ => absurd rfl h
  | _, [], _, h, _, _, _ => absurd rfl h
  | [a], [b], _, _, _, _, e => by rw [show a = b from e]
  | [a], b :: b2 :: r, _, _, ha, _, e => by
    exfalso
    have e : a = b ++ ⟨#[c]⟩ ++ Str.join ⟨#[c]⟩ (b2 :: r) := e
    refine ha a (.head _) ?_
    rw [e, app_list, app_list]
    exact List.mem_append_left _ (List.mem_append_right _ (.head _))
  | a :: a2 :: r, [b], _, _, _, hb, e => by
    exfalso
    have e : a ++ ⟨#[c]⟩ ++ Str.join ⟨#[c]⟩ (a2 :: r) = b := e
    refine hb b (.head _) ?_
    rw [← e, app_list, app_list]
    exact List.mem_append_left _ (List.mem_append_right _ (.head _))
  | a :: a2 :: r, b :: b2 :: q, _, _, ha, hb, e => by
    have e : a ++ ⟨#[c]⟩ ++ Str.join ⟨#[c]⟩ (a2 :: r) = b ++ ⟨#[c]⟩ ++ Str.join ⟨#[c]⟩ (b2 :: q) := e
    have e2 := congrArg (fun x : Str => x.cps.toList) e
    simp only [app_list] at e2
    have e3 : a.cps.toList ++ c :: (Str.join ⟨#[c]⟩ (a2 :: r)).cps.toList = b.cps.toList ++ c :: (Str.join ⟨#[c]⟩ (b2 :: q)).cps.toList := by simpa using e2
    obtain ⟨e4, e5⟩ := cut_uniq (ha a (.head _)) (hb b (.head _)) e3
    rw [str_ext e4, join_uniq (A := a2 :: r) (B := b2 :: q) (by simp) (by simp) (fun p hp => ha p (.tail _ hp)) (fun p hp => hb p (.tail _ hp)) (str_ext e5)]
theorem split_join {c : Nat} {rows : List Str} (hne : rows ≠ []) (hf : ∀ p ∈ rows, c ∉ p.cps.toList) : Txt.split (Txt.join ⟨#[c]⟩ rows) ⟨#[c]⟩ = rows := by
  have e : Txt.join ⟨#[c]⟩ rows = Str.join ⟨#[c]⟩ rows := glued_eq_join _ _
  rw [e]
  refine join_uniq ?_ hne (fun p hp => split_free _ c p hp) hf (join_split _ _)
  unfold Txt.split
  split
  · simp
  · split
    · simp
    · rw [partsBetween_eq]
      obtain ⟨p, q, e⟩ := partsFrom_ne (Str.join ⟨#[c]⟩ rows) (⟨#[c]⟩ : Str).length 0 _
      rw [e]
      simp
end XRows
section XProw
set_option maxRecDepth 100000

noncomputable abbrev Pc := Int × Bool
noncomputable def Pc.ok (p : Pc) : Prop := 0 ≤ p.1 ∧ p.1 < 4
noncomputable def markT (m : Int) : List Rx.Tk := if m = 1 then [.q 1] else if m = 2 then [.q 2] else if m = 3 then [.g 92, .q 3] else []
noncomputable def pieceT (p : Pc) : List Rx.Tk := markT p.1 ++ [.g (if p.2 then 40 else 41)]
noncomputable def rowT (r : List Pc) : List Rx.Tk := r.flatMap pieceT
noncomputable def rowS (r : List Pc) : Str := catS (r.map pieceS)
theorem pc_cases {P : Pc → Prop} (h : ∀ m ∈ ([0, 1, 2, 3] : List Int), ∀ b ∈ [true, false], P (m, b)) (p : Pc) (hp : p.ok) : P p := by
  obtain ⟨m, b⟩ := p
  obtain ⟨h0, h1⟩ := hp
  have h0 : 0 ≤ m := h0
  have h1 : m < 4 := h1
  have hm : m ∈ ([0, 1, 2, 3] : List Int) := by
    have : m = 0 ∨ m = 1 ∨ m = 2 ∨ m = 3 := by omega
    rcases this with h | h | h | h <;> subst h <;> decide
  exact h m hm b (by cases b <;> decide)
theorem piece_txt (p : Pc) (hp : p.ok) : Rx.txt (pieceT p) = (pieceS p).cps.toList := pc_cases (P := fun p => Rx.txt (pieceT p) = (pieceS p).cps.toList) (by decide +kernel) p hp
theorem piece_tok (p : Pc) (hp : p.ok) : ∀ t ∈ pieceT p, t.ok := by
  obtain ⟨m, b⟩ := p
  intro t ht
  unfold pieceT markT at ht
  rcases List.mem_append.mp ht with ht | ht
  · dsimp only at ht
    split at ht
    · rw [List.mem_singleton.mp ht]; trivial
    split at ht
    · rw [List.mem_singleton.mp ht]; trivial
    split at ht
    · rcases List.mem_cons.mp ht with rfl | ht
      · exact ⟨by decide, by decide⟩
      · rw [List.mem_singleton.mp ht]; trivial
    · cases ht
  · rw [List.mem_singleton.mp ht]
    cases b
    · exact (show (41 ≠ 34 ∧ 41 < 128) from ⟨by decide, by decide⟩)
    · exact (show (40 ≠ 34 ∧ 40 < 128) from ⟨by decide, by decide⟩)
theorem piece_last (p : Pc) (hp : p.ok) : lastP (pieceS p) = !p.2 := pc_cases (P := fun p => lastP (pieceS p) = !p.2) (by decide +kernel) p hp
theorem piece_len (p : Pc) (hp : p.ok) : 0 < (pieceS p).length ∧ (pieceS p).length < 8 := pc_cases (P := fun p => 0 < (pieceS p).length ∧ (pieceS p).length < 8) (by decide +kernel) p hp
theorem piece_ok (p : Pc) (hp : p.ok) : PyData.strOk (pieceS p) = true := pc_cases (P := fun p => PyData.strOk (pieceS p) = true) (by decide +kernel) p hp
theorem piece_chars (p : Pc) (hp : p.ok) : ∀ c ∈ (pieceS p).cps.toList, c < 128 ∧ c ≠ 10 := pc_cases (P := fun p => ∀ c ∈ (pieceS p).cps.toList, c < 128 ∧ c ≠ 10) (by decide +kernel) p hp
theorem piece_nosp (p : Pc) (hp : p.ok) : ∃ c ∈ (pieceS p).cps.toList, Unicode.isSpace c = false := pc_cases (P := fun p => ∃ c ∈ (pieceS p).cps.toList, Unicode.isSpace c = false) (by decide +kernel) p hp
theorem piece_40 (p : Pc) (hp : p.ok) : ((Rx.gaps (pieceT p)).map (·.toUInt8)).count 40 = if p.2 then 1 else 0 := pc_cases (P := fun p => ((Rx.gaps (pieceT p)).map (·.toUInt8)).count 40 = if p.2 then 1 else 0) (by decide +kernel) p hp
theorem piece_41 (p : Pc) (hp : p.ok) : ((Rx.gaps (pieceT p)).map (·.toUInt8)).count 41 = if p.2 then 0 else 1 := pc_cases (P := fun p => ((Rx.gaps (pieceT p)).map (·.toUInt8)).count 41 = if p.2 then 0 else 1) (by decide +kernel) p hp
theorem gaps_app : ∀ a b : List Rx.Tk, Rx.gaps (a ++ b) = Rx.gaps a ++ Rx.gaps b
  | [], b => rfl
  | .g c :: a, b => by show c :: Rx.gaps (a ++ b) = _; rw [gaps_app a b]; rfl
  | .q k :: a, b => by show Rx.gaps (a ++ b) = _; rw [gaps_app a b]; rfl
theorem rowS_list (r : List Pc) : (rowS r).cps.toList = r.flatMap fun p => (pieceS p).cps.toList := by
  show ((r.map pieceS).flatMap (·.cps.toList)).toArray.toList = _
  rw [List.flatMap_map]
theorem row_txt : ∀ (r : List Pc), (∀ p ∈ r, p.ok) → Rx.txt (rowT r) = (rowS r).cps.toList
  | [], _ => rfl
  | p :: r, h => by
    have ih := row_txt r fun q hq => h q (.tail _ hq)
    rw [rowS_list] at ih ⊢
    show (pieceT p ++ rowT r).flatMap Rx.Tk.txt = _
    rw [List.flatMap_append, List.flatMap_cons, ← piece_txt p (h p (.head _)), ← ih]
    rfl
theorem row_tok {r : List Pc} (h : ∀ p ∈ r, p.ok) : ∀ t ∈ rowT r, t.ok := fun t ht => by
  obtain ⟨p, hp, ht⟩ := List.mem_flatMap.mp ht
  exact piece_tok p (h p hp) t ht
theorem row_chars {r : List Pc} (h : ∀ p ∈ r, p.ok) : ∀ c ∈ (rowS r).cps.toList, c < 128 ∧ c ≠ 10 := fun c hc => by
  rw [rowS_list] at hc
  obtain ⟨p, hp, hc⟩ := List.mem_flatMap.mp hc
  exact piece_chars p (h p hp) c hc
theorem row_40 : ∀ {r : List Pc}, (∀ p ∈ r, p.ok) → ((Rx.gaps (rowT r)).map (·.toUInt8)).count 40 = (r.map (·.2)).count true
  | [], _ => rfl
  | p :: r, h => by
    show ((Rx.gaps (pieceT p ++ rowT r)).map (·.toUInt8)).count 40 = _
    rw [gaps_app, List.map_append, List.count_append, row_40 (r := r) fun q hq => h q (.tail _ hq), piece_40 p (h p (.head _)), List.map_cons, List.count_cons]
    cases p.2 <;> simp <;> omega
theorem row_41 : ∀ {r : List Pc}, (∀ p ∈ r, p.ok) → ((Rx.gaps (rowT r)).map (·.toUInt8)).count 41 = (r.map (·.2)).count false
  | [], _ => rfl
  | p :: r, h => by
    show ((Rx.gaps (pieceT p ++ rowT r)).map (·.toUInt8)).count 41 = _
    rw [gaps_app, List.map_append, List.count_append, row_41 (r := r) fun q hq => h q (.tail _ hq), piece_41 p (h p (.head _)), List.map_cons, List.count_cons]
    cases p.2 <;> simp <;> omega
theorem row_len : ∀ {r : List Pc}, (∀ p ∈ r, p.ok) → (rowS r).length ≤ 8 * r.length := by
  intro r h
  have e : (rowS r).length = (rowS r).cps.toList.length := by simp [Str.length]
  rw [e, rowS_list]
  induction r with
  | nil => exact Nat.zero_le _
  | cons p r ih =>
    rw [List.flatMap_cons, List.length_append, List.length_cons]
    have h1 : (pieceS p).cps.toList.length < 8 := by have := (piece_len p (h p (.head _))).2; simpa [Str.length] using this
    have h2 := ih (fun q hq => h q (.tail _ hq)) (by simp [Str.length])
    omega
theorem row_nosp {r : List Pc} (h : ∀ p ∈ r, p.ok) (hne : r ≠ []) : Txt.isspace (rowS r) = false := by
  obtain ⟨p, q, rfl⟩ : ∃ p q, r = p :: q := by
    cases r with
    | nil => exact absurd rfl hne
    | cons p q => exact ⟨p, q, rfl⟩
  obtain ⟨c, hc, hs⟩ := piece_nosp p (h p (.head _))
  unfold Txt.isspace
  have : (rowS (p :: q)).cps.all Unicode.isSpace = false := by
    rw [Bool.eq_false_iff]
    intro e
    rw [Array.all_eq_true'] at e
    have := e c (by
      rw [← Array.mem_toList_iff, rowS_list, List.flatMap_cons]
      exact List.mem_append_left _ hc)
    rw [hs] at this
    cases this
  rw [this, Bool.and_false]
noncomputable def G2 : List (List Pc) × List Pc → Pc → List (List Pc) × List Pc := grp (·.2)
theorem closes_map {cur : List Pc} (h : ∀ p ∈ cur, p.ok) : closes (cur.map pieceS) = endsC (fun p : Pc => p.2) cur := by
  unfold closes endsC
  rw [List.getLast?_map]
  cases hq : cur.getLast? with
  | none => rfl
  | some p => exact piece_last p (h p (List.mem_of_getLast? hq))
theorem chunk_grp {q : List (List Pc) × List Pc} {p : Pc} (h : ∀ p ∈ q.2, p.ok) : chunk (q.1.map rowS) (q.2.map pieceS) (pieceS p) = ((G2 q p).1.map rowS, (G2 q p).2.map pieceS) := by
  unfold chunk G2 grp
  rw [closes_map h]
  cases endsC (fun p : Pc => p.2) q.2 with
  | true => simp [rowS]
  | false => simp
structure GI (n : Nat) (q : List (List Pc) × List Pc) : Prop where
  okL : ∀ r ∈ q.1, ∀ p ∈ r, p.ok
  okC : ∀ p ∈ q.2, p.ok
  low : ∀ i p, i + 1 < q.2.length → q.2[i]? = some p → p.2 = true
  len : q.1.length + q.2.length ≤ n
  lenR : ∀ r ∈ q.1, r.length ≤ n
  neL : ∀ r ∈ q.1, r ≠ []
theorem GI.nil : GI 0 ([], []) := by
  refine ⟨?_, ?_, ?_, Nat.le_refl _, ?_, ?_⟩
  · intro r h; cases h
  · intro p h; cases h
  · intro i p h; exact absurd h (by simp)
  · intro r h; cases h
  · intro r h; cases h
theorem GI.step {n : Nat} {q : List (List Pc) × List Pc} {p : Pc} (g : GI n q) (hp : p.ok) : GI (n + 1) (G2 q p) ∧ (G2 q p).2 ≠ [] := by
  unfold G2 grp
  by_cases hc : endsC (fun p : Pc => p.2) q.2 = true
  · rw [if_pos hc]
    have hl := g.len
    refine ⟨⟨fun r hr => ?_, fun x hx => ?_, fun i x hi => ?_, ?_, fun r hr => ?_, fun r hr => ?_⟩, by simp⟩
    · rcases List.mem_append.mp hr with hr | hr
      · exact g.okL r hr
      · rw [List.mem_singleton.mp hr]; exact g.okC
    · rw [List.mem_singleton.mp hx]; exact hp
    · simp at hi
    · have hq : 0 < q.2.length := by
        rcases Nat.eq_zero_or_pos q.2.length with h | h
        · rw [List.length_eq_zero_iff.mp h] at hc
          cases hc
        · exact h
      simp only [List.length_append, List.length_singleton]
      omega
    · rcases List.mem_append.mp hr with hr | hr
      · exact Nat.le_succ_of_le (g.lenR r hr)
      · rw [List.mem_singleton.mp hr]; omega
    · rcases List.mem_append.mp hr with hr | hr
      · exact g.neL r hr
      · rw [List.mem_singleton.mp hr]
        rintro h
        rw [h] at hc
        cases hc
  · rw [if_neg hc]
    have hl := g.len
    refine ⟨⟨g.okL, fun x hx => ?_, fun i x hi hx => ?_, ?_, fun r hr => Nat.le_succ_of_le (g.lenR r hr), g.neL⟩, by simp⟩
    · rcases List.mem_append.mp hx with hx | hx
      · exact g.okC x hx
      · rw [List.mem_singleton.mp hx]; exact hp
    · dsimp only at hi hx
      rw [List.length_append, List.length_singleton] at hi
      have hi2 : i < q.2.length := by omega
      rw [List.getElem?_append_left hi2] at hx
      by_cases hl2 : i + 1 < q.2.length
      · exact g.low i x hl2 hx
      · have e : q.2.getLast? = some x := by
          rw [List.getLast?_eq_getElem?, show q.2.length - 1 = i by omega]; exact hx
        have : endsC (fun p : Pc => p.2) q.2 = !x.2 := by unfold endsC; rw [e]
        rw [this] at hc
        cases hx2 : x.2 with
        | true => rfl
        | false => rw [hx2] at hc; exact absurd rfl hc
    · simp only [List.length_append, List.length_singleton]; omega
theorem GI.fold {pcs : List Pc} (h : ∀ p ∈ pcs, p.ok) : ∀ i ≤ pcs.length, GI i ((pcs.take i).foldl G2 ([], []))
  | 0, _ => GI.nil
  | i + 1, hi => by
    have hlt : i < pcs.length := hi
    rw [List.take_add_one, List.getElem?_eq_getElem hlt, List.foldl_append]
    exact ((GI.fold h i (Nat.le_of_lt hlt)).step (h _ (List.getElem_mem hlt))).1
theorem fold_ne {pcs : List Pc} (h : ∀ p ∈ pcs, p.ok) (hn : pcs ≠ []) : (pcs.foldl G2 ([], [])).2 ≠ [] := by
  obtain ⟨r, p, rfl⟩ : ∃ r p, pcs = r ++ [p] := ⟨_, _, (List.dropLast_concat_getLast hn).symm⟩
  rw [List.foldl_append]
  have g := GI.fold (pcs := r) (fun x hx => h x (List.mem_append_left _ hx)) r.length (Nat.le_refl _)
  rw [List.take_length] at g
  exact (g.step (h p (List.mem_append_right _ (.head _)))).2
theorem rows_bool (pcs : List Pc) : (rowsOf (fun p : Pc => p.2) pcs).map (·.map (·.2)) = rowsOf id (pcs.map (·.2)) := rows_map (fun p : Pc => p.2) id pcs
noncomputable def stB (RB : List (List Bool)) (k : Nat) : List Int × Nat × List Int := (RB.take k).foldl readB ([], 0, [])
theorem stB_succ {RB : List (List Bool)} {k : Nat} {r : List Bool} (h : RB[k]? = some r) : stB RB (k + 1) = readB (stB RB k) r := by
  unfold stB
  rw [List.take_add_one, h, List.foldl_append]
  rfl
theorem stB_len {RB : List (List Bool)} (h : ∀ r ∈ RB, r.length ≤ 18) : ∀ k ≤ RB.length, (stB RB k).1.length ≤ 18 * k ∧ (stB RB k).2.1 ≤ 18 * k ∧ (stB RB k).2.2.length = k
  | 0, _ => ⟨Nat.le_refl _, Nat.le_refl _, rfl⟩
  | k + 1, hk => by
    have hlt : k < RB.length := hk
    obtain ⟨h1, h2, h3⟩ := stB_len h k (Nat.le_of_lt hlt)
    rw [stB_succ (List.getElem?_eq_getElem hlt)]
    have hr := h _ (List.getElem_mem hlt)
    have hc : (RB[k]).count true ≤ (RB[k]).length := List.count_le_length
    unfold readB
    dsimp only
    rw [List.length_dropLast, List.length_append, List.length_append, List.length_map, List.length_range, List.length_singleton, h3]
    omega
noncomputable def namesB (c j : Nat) : List Int := (List.range j).map fun (i : Nat) => ((c + i + 1 : Nat) : Int)
theorem namesB_succ (c j : Nat) : namesB c (j + 1) = namesB c j ++ [((c + j + 1 : Nat) : Int)] := by
  unfold namesB
  rw [List.range_succ, List.map_append, List.map_singleton]
theorem namesB_len (c j : Nat) : (namesB c j).length = j := by simp [namesB]
theorem readB_eq (st : List Int × Nat × List Int) (r : List Bool) : readB st r = ((st.1 ++ namesB st.2.1 (r.count true)).dropLast, st.2.1 + r.count true, st.2.2 ++ [(st.1 ++ namesB st.2.1 (r.count true)).getD ((st.1 ++ namesB st.2.1 (r.count true)).length - 1) 0]) := rfl
noncomputable def letS (k : Int) : Str := ⟨#[(96 + k).toNat]⟩
noncomputable def wordS (l : List Int) : Str := ⟨(l.map fun k => (96 + k).toNat).toArray⟩
theorem wordS_push (l : List Int) (k : Int) : wordS l ++ letS k = wordS (l ++ [k]) := by
  apply str_ext
  rw [app_list]
  simp [wordS, letS]
theorem lenS_let (l : List Int) : ((l.map letS).map (·.length)).sum = l.length := by
  induction l with
  | nil => rfl
  | cons k l ih =>
    rw [List.map_cons, List.map_cons, List.sum_cons, ih, List.length_cons]
    show 1 + l.length = _
    omega
theorem last_split {l : List Int} (h : 0 < l.length) : l.map letS = l.dropLast.map letS ++ [letS (l.getD (l.length - 1) 0)] := by
  have hn : l ≠ [] := fun e => by rw [e] at h; exact absurd h (Nat.lt_irrefl 0)
  have e : l.getD (l.length - 1) 0 = l.getLast hn := by
    rw [List.getLast_eq_getElem, List.getD_eq_getElem?_getD, List.getElem?_eq_getElem (by omega)]
    rfl
  rw [e, ← List.map_singleton, ← List.map_append, List.dropLast_concat_getLast hn]
end XProw
section XRead
set_option maxRecDepth 100000

example : True := by
  k_with_none
  trivial

example : True := by
  k_with "getMethod ref" => (k_here; k_dflt (refine' acc_methA ?wkF ?wkX ?wkN ?wkhx ?wkhdx ?_; (case wkF => k_asm); (case wkX => k_asm); (case wkN => k_asm); (case wkhx => k_mem); (case wkhdx => k_mem)))
  k_with "getMethod ref" => (k_here; k_dflt (refine' acc_meth ?wkF ?wkX ?wkN ?wkhx ?wkhdx ?wkhf ?wkht ?wkhn ?_; (case wkF => k_asm); (case wkX => k_asm); (case wkN => k_asm); (case wkhx => k_mem); (case wkhdx => k_mem); (case wkhf => k_is); (case wkht => k_is); (case wkhn => decide)))
  k_with "call builtin:list.append" => (k_here; k_dflt (refine' acc_app ?wkF ?wkX ?wkN ?wkhx ?wkhdx ?wkhz ?_; (case wkF => k_asm); (case wkX => k_asm); (case wkN => k_asm); (case wkhx => k_mem); (case wkhdx => k_mem); (case wkhz => omega)); intro _ _ _ _ _ _ _ _)
  k_with "call ref" => refine Held.mk ?_
  k_with "getAttr ref" => (k_here; k_dflt (refine' acc_size ?wkF ?wkX ?wkN ?wkhx ?wkhdx ?_; (case wkF => k_asm); (case wkX => k_asm); (case wkN => k_asm); (case wkhx => k_mem); (case wkhdx => k_mem)))
  k_with "getAttr ref" => (k_here; (with_reducible show wpAny _ _ (getAttr (Value.ref _) (PySem.Str.ofString "_current_line") _) _ _ _); k_dflt (refine' mk_cl ?wkF ?wkX ?wkN ?wkhmk ?wkhdm ?_; (case wkF => k_asm); (case wkX => k_asm); (case wkN => k_asm); (case wkhmk => k_mem); (case wkhdm => k_mem)))
  k_with "getAttr ref" => (k_here; (with_reducible show wpAny _ _ (getAttr (Value.ref _) (PySem.Str.ofString "_maxlen") _) _ _ _); k_dflt (refine' mk_ml ?wkF ?wkX ?wkN ?wkhmk ?wkhdm ?_; (case wkF => k_asm); (case wkX => k_asm); (case wkN => k_asm); (case wkhmk => k_mem); (case wkhdm => k_mem)))
  k_with "getAttr ref" => (k_here; (with_reducible show wpAny _ _ (getAttr (Value.ref _) (PySem.Str.ofString "_splitchars") _) _ _ _); k_dflt (refine' mk_sp ?wkF ?wkX ?wkN ?wkhmk ?wkhdm ?_; (case wkF => k_asm); (case wkX => k_asm); (case wkN => k_asm); (case wkhmk => k_mem); (case wkhdm => k_mem)))
  k_with "getAttr ref" => (k_here; (with_reducible show wpAny _ _ (getAttr (Value.ref _) (PySem.Str.ofString "_lines") _) _ _ _); k_dflt (refine' mk_ln ?wkF ?wkX ?wkN ?wkhmk ?wkhdm ?_; (case wkF => k_asm); (case wkX => k_asm); (case wkN => k_asm); (case wkhmk => k_mem); (case wkhdm => k_mem)))
  k_with "getAttr ref" => (k_here; (with_reducible show wpAny _ _ (getAttr (Value.ref _) (PySem.Str.ofString "_initial_size") _) _ _ _); k_dflt (refine' acc_size ?wkF ?wkX ?wkN ?wkhx ?wkhdx ?_; (case wkF => k_asm); (case wkX => k_asm); (case wkN => k_asm); (case wkhx => k_mem); (case wkhdx => k_mem)))
  k_with "call type:str" => refine Held.mk ?_
  k_with "pyIter ref" => refine Held.mk ?_
  k_with "pyIter str" => refine Held.mk ?_
  k_with "call builtin:len" => refine Held.mk ?_
  k_with "call builtin:list.append" => refine Held.mk ?_
  k_with "GPost" => dsimp only [GPost]
  k_with "getMethod ref" => (k_here; (with_reducible show wpAny _ _ (getMethod (Value.ref _) (PySem.Str.ofString "_append_chunk") _) _ _ _); refine Held.mk ?_)
  k_with "getMethod ref" => (k_here; (with_reducible show wpAny _ _ (getMethod (Value.ref _) (PySem.Str.ofString "_str") _) _ _ _); refine Held.mk ?_)
  trivial
theorem encM {M : Model} {A : Around} {E : Value → Shared → Prop} {s : Shared} {x : Str} {t : Tok} {pl : Sem Bool} {Q : Value × List Value → Shared → Prop} (h : Q (.builtin "str.encode", [.str x t]) s) : wpAny M A (getMethod (.str x t) (PySem.Str.ofString "encode") pl) Q E s := by
  with_reducible refine getMethod_builtin (T := "str") (name := PySem.Str.ofString "encode") (id := "str.encode") ?_ ?_ ?_ ?_ ?_ ?_
  · exact typeIs_str _ _ _
  · exact F.plainAttrs_str
  · exact F.slot_str_encode
  · exact F.type_str_encode
  · intro _ e; cases e
  · exact h
example : True := by
  k_with "getMethod str" => (k_here; (with_reducible show wpAny _ _ (getMethod (Value.str _ _) (PySem.Str.ofString "encode") _) _ _ _); refine encM ?_)
  k_with "WhlRest" => refine Held.mk ?_
  k_with "call builtin:str.split" => refine Held.mk ?_
  k_with "call builtin:str.encode" => refine Held.mk ?_
  k_with "exec For Name Name cons nil" => (k_here; refine wpAny_For ?_ (fun _ => rfl))
  k_with "exec For Name Call cons nil" => (k_here; refine wpAny_For ?_ (fun _ => rfl))
  trivial
theorem MkAt.grow {led led' : List (Addr × Obj)} {mk dm ls x dx : Addr} {lines ps : List Str} (S : MkAt led mk dm ls x dx lines ps) (hk : ∀ p ∈ led, p ∈ led') : MkAt led' mk dm ls x dx lines ps := by
  obtain ⟨q, wl, nl, h1, h2, h3, h4, h5⟩ := S
  exact ⟨q, wl, nl, hk _ h1, hk _ h2, hk _ h3, h4, h5.grow hk⟩
theorem AccIs.but {h₀ h : Heap} {L I x dx : Addr} {ito : Obj} {led led' : List (Addr × Obj)} {ps : List Str} (S : AccIs led x dx ps) (N : News h₀ L h led) (hI : (I, ito) ∈ led) (hc : ito.cls = .type "list_iterator") (hk : ∀ p ∈ led, p.1 ≠ I → p ∈ led') : AccIs led' x dx ps := by
  obtain ⟨n, hsh, tk, u, as, hx, hdx, hl, hp⟩ := id S
  refine S.other N hI (led_ne N hI hx ?_) (led_ne N hI hdx ?_) ?_ hk
  · rw [hc]; intro h; cases h
  · rw [hc]; intro h; exact absurd (Value.type.inj h) (by decide)
  · rw [hc]; intro h; exact absurd (Value.type.inj h) (by decide)
theorem MkAt.but {h₀ h : Heap} {L I : Addr} {ito : Obj} {led led' : List (Addr × Obj)} {mk dm ls x dx : Addr} {lines ps : List Str} (S : MkAt led mk dm ls x dx lines ps) (N : News h₀ L h led) (hI : (I, ito) ∈ led) (hc : ito.cls = .type "list_iterator") (hk : ∀ p ∈ led, p.1 ≠ I → p ∈ led') : MkAt led' mk dm ls x dx lines ps := by
  obtain ⟨q, wl, nl, h1, h2, h3, h4, h5⟩ := S
  have nt : ∀ T : String, T ≠ "list_iterator" → Value.type T ≠ ito.cls := fun T hT e => by
    rw [hc] at e
    exact hT (Value.type.inj e)
  refine ⟨q, wl, nl, hk _ h1 (led_ne N h1 hI ?_), hk _ h2 (led_ne N h2 hI (nt _ (by decide))), hk _ h3 (led_ne N h3 hI (nt _ (by decide))), h4, h5.but N hI hc hk⟩
  rw [hc]; intro h; cases h
theorem GTab.off {P I : Addr} {pos : Pos} {led : List (Addr × Obj)} (ht : GTab P pos led) (ho : ∀ p ∈ led, p.1 ≠ I) : I ≠ P := by
  rcases ht with h | ⟨c, h⟩
  · exact Ne.symm (ho _ h)
  · exact Ne.symm (ho _ h)
theorem join_len (sep : Str) (h1 : sep.length = 1) (l : List Str) : (Txt.join sep l).length ≤ (l.map (·.length)).sum + l.length := by
  have e : Txt.join sep l = Str.join sep l := StrLaws.glued_eq_join _ _
  rw [e]
  clear e
  match l with
  | [] => exact Nat.zero_le _
  | [a] => show a.length ≤ _; simp
  | a :: b :: r =>
    have ih := join_len sep h1 (b :: r)
    rw [show Txt.join sep (b :: r) = Str.join sep (b :: r) from StrLaws.glued_eq_join _ _] at ih
    have e : Str.join sep (a :: b :: r) = a ++ sep ++ Str.join sep (b :: r) := rfl
    rw [e, Str.length_append, Str.length_append, h1]
    simp only [List.map_cons, List.sum_cons, List.length_cons] at ih ⊢
    omega
theorem bytes_back {x : Str} {l : List Rx.Tk} (h : Rx.txt l = x.cps.toList) (hc : ∀ c ∈ x.cps.toList, c < 128) : (x.cps.map (·.toUInt8)).map (·.toNat) = (Rx.txt l).toArray := by
  rw [h]
  apply Array.toList_inj.mp
  rw [Array.toList_map, Array.toList_map, List.map_map]
  show x.cps.toList.map _ = x.cps.toList
  have e : ∀ c ∈ x.cps.toList, ((fun (b : UInt8) => b.toNat) ∘ fun (c : Nat) => c.toUInt8) c = c := fun c hm => by
    have := hc c hm
    show c.toUInt8.toNat = c
    simp
    omega
  rw [List.map_congr_left e, List.map_id']
inductive JR1 (mk dm ls x dx : Addr) (news : List (Addr × Obj)) (pcs : List Pc) (i : Nat) (m : Str → Option Value) (led : List (Addr × Obj)) : Prop
  | mk (S : MkAt led mk dm ls x dx (((pcs.take i).foldl G2 ([], [])).1.map rowS) (((pcs.take i).foldl G2 ([], [])).2.map pieceS)) (ht : LenTab led) (ht2 : StrTab led) (hk : ∀ q ∈ news, q.1 ≠ 175 → q.1 ≠ 182 → q ∈ led)
    (hm : Pins m [(Str.ofString "maker", .ref mk)]) : JR1 mk dm ls x dx news pcs i m led
inductive JR2 (x2 dx2 D : Addr) (o : Obj) (news : List (Addr × Obj)) (RB : List (List Bool)) (k : Nat) (m : Str → Option Value) (led : List (Addr × Obj)) : Prop
  | mk (S : AccIs led x2 dx2 ((stB RB k).1.map letS)) (ht : LenTab led) (ht2 : StrTab led) (hD : (D, o) ∈ led) (hk : ∀ q ∈ news, q.1 ≠ 175 → q.1 ≠ 182 → q ∈ led) (tn tw : Tok)
    (hm : Pins m [(Str.ofString "waiting", .ref x2), (Str.ofString "names", .int ((stB RB k).2.1 : Nat) tn), (Str.ofString "word", .str (wordS (stB RB k).2.2) tw)]) : JR2 x2 dx2 D o news RB k m led
inductive JRW (s12 : Shared) (g' : Heap) (L' x2 dx2 : Addr) (rest : List (Addr × Obj)) (wt : List Int) (nm o : Nat) (wd : List Int) (κ : Nat) (s1 : Shared) : Prop
  | mk (led : List (Addr × Obj)) (m : Str → Option Value) (tn td tw : Tok) (G : Goes s12 s1) (F : Fr g' L' s1.heap m) (N : News g' L' s1.heap led) (S : AccIs led x2 dx2 ((wt ++ namesB nm (o - κ)).map letS)) (ht : LenTab led) (hκ : κ ≤ o)
    (hk : ∀ q ∈ rest, q.1 ≠ 175 → q.1 ≠ x2 → q ∈ led) (hm : Pins m [(Str.ofString "waiting", .ref x2), (Str.ofString "names", .int ((nm + (o - κ) : Nat) : Int) tn), (Str.ofString "depth", .int ((wt.length : Int) + (o : Nat) - (1 : Nat)) td), (Str.ofString "word", .str (wordS wd) tw)]) : JRW s12 g' L' x2 dx2 rest wt nm o wd κ s1
section
variable {prog : Program} {w : World} {p : Program} {loose : List Str} {mean : ExcName → Option Value} {mg mb : Str → Option Value}
set_option maxHeartbeats 8000000 in
theorem readC (hpr : PrOk prog) {dp un : Nat} {gd : Option (List Code)} {cn : Str} {cs : Scope} {a : Addr} {ccd : Value} {cl : List (Str × Addr)} {outer : List Env} {A₀ : Around} {base h₀ : Heap} {L : Addr} {m : Str → Option Value} {s : Shared} {Q E : Value → Shared → Prop} {news : List (Addr × Obj)} {lp : Addr} {wp : List Value} {np : Nat} {pcs : List Pc}
    (B : Below A₀ base outer h₀) (F : Fr h₀ L s.heap m) (X : (Mine.hd.heap_39 w.params).In h₀) (N : News h₀ L s.heap news) (T : Top p loose mean mg mb h₀) (hk : cs.kind = .function) (G : AllBare s.gens) (ht : LenTab news) (ht2 : StrTab news) (hmp : (lp, listOf wp.toArray np) ∈ news) (hip : StrsAre wp (pcs.map pieceS)) (hok : ∀ p ∈ pcs, p.ok) (hne : pcs ≠ []) (hlen : pcs.length ≤ 18) (hone : ∀ r ∈ rowsOf id (pcs.map (·.2)), r.count false = 1) (hpos : ∀ k r, (rowsOf id (pcs.map (·.2)))[k]? = some r → 0 < (stB (rowsOf id (pcs.map (·.2))) k).1.length + r.count true)
    (hd : dp + 100 < recursionLimit) (hu : un + 900 < cLine)
    (hret : ∀ s' led' t, Fr h₀ L s'.heap m → News h₀ L s'.heap led' → Goes s s' → LenTab led' → StrTab led' → (∀ q ∈ news, q.1 ≠ 175 → q.1 ≠ 182 → q ∈ led') → Q (.str (wordS (wordB (pcs.map (·.2)))) t) s') :
    wpAny (model prog w) (ktrTop dp un gd cn cs L a ccd cl outer) (call (.ref 251) [.ref lp]) Q E s := by
  refine wpAny_call ?_
  k_dflt (refine' code_def ?k1 ?k2 ?k3 ?k4 ?k5 ?kA ?kF ?kK ?k6 ?k7 ?k8 ?k9 ?kB ?_ ?c2 ?c3 ?c4 ?c5; (case kA => exact rfl); (case kF => exact rfl); (case kK => first | assumption | exact rfl); (case k1 => k_asm); (case k2 => k_asm); (case k3 => k_asm); (case k4 => k_asm); (case k5 => k_asm); (case k6 => k_is); (case k7 => k_is); (case k8 => ktr_room); (case k9 => first | exact BindsTo.of_eq rfl | exact binds_K (by k_in) rfl (by k_is) rfl rfl rfl | (refine' kp_binds ?kx ?ke; (case kx => k_in); (case ke => exact fun _ => rfl)) | fail "x_enter: no rule for these arguments"); (case c5 => decide); (case kB => exact locs rfl); (case c2 => exact rfl); (case c3 => exact rfl); (case c4 => exact rfl); k_whole; intro g' L' h' FG' F' N' B' X' T'; (try dsimp only); (try k_lift B'); (try k_fold))
  k_steps
  refine Held.out ?_
  k_dflt (refine' newM hpr ?k1 ?k2 ?k3 ?k4 ?k5 ?kK ?kd ?ku ?_; (case k1 => k_asm); (case k2 => k_asm); (case k3 => k_asm); (case k4 => k_asm); (case k5 => k_asm); (case kK => first | exact rfl | assumption); (case kd => ktr_room); (case ku => first | ktr_units | (show un + 1 + 150 < cLine; ktr_units) | (show un + 1 + 3 + 150 < cLine; ktr_units)))
  intro s5 led5 mk dm ls x dx F5 N5 G5 S5 hk5 ldm lmk lls lx ldx
  have hmp5 := hk5 _ hmp
  have ht5 : LenTab led5 := ht.mono fun o h => hk5 _ h
  have ht25 : StrTab led5 := ht2.mono fun o h => hk5 _ h
  k_steps
  refine Held.out ?_
  have hl175 : lp ≠ 175 := Ne.symm (ht.ne N hmp (by intro h; cases h))
  have hl182 : lp ≠ 182 := Ne.symm (ht2.ne N hmp (by intro h; cases h))
  rename Fr _ _ _ _ => F6
  rename News _ _ _ _ => N6
  have hwl : wp.length = pcs.length := by rw [hip.len_eq, List.length_map]
  refine iter_listG (n := np) (J := JR1 mk dm ls x dx news pcs) rfl F6 N6 ⟨S5, ht5, ht25, fun q hq _ _ => hk5 q hq, .cons rfl .nil⟩ (fun i m led ⟨_, _, _, h, _⟩ => h _ hmp hl175 hl182) ?_ ?_ (by passes_own) (fun _ _ => rfl)
  · intro i v m7 led7 s7 I7 ito7 hv hJ9 G7 ho7 F7 hc7 N7
    obtain ⟨S7, ht7, ht27, hk7, hm7⟩ := hJ9
    replace F7 : Fr g' L' s7.heap _ := fr_pins F7 hm7
    replace N7 : News g' L' s7.heap ((I7, ito7) :: led7) := N7
    have hi : i < pcs.length := by rw [← hwl]; exact (List.getElem?_eq_some_iff.mp hv).1
    obtain ⟨tv, hv2⟩ := hip.at (j := i) (y := pieceS pcs[i]) (by rw [List.getElem?_map, List.getElem?_eq_getElem hi]; rfl)
    rw [hv] at hv2
    cases hv2
    k_steps
    refine Held.out ?_
    have g := GI.fold hok i (Nat.le_of_lt hi)
    have hstep : (pcs.take (i + 1)).foldl G2 ([], []) = G2 ((pcs.take i).foldl G2 ([], [])) pcs[i] := by
      rw [List.take_add_one, List.getElem?_eq_getElem hi, List.foldl_append]
      rfl
    have hcg := chunk_grp (q := (pcs.take i).foldl G2 ([], [])) (p := pcs[i]) g.okC
    have hpk := hok _ (List.getElem_mem hi)
    have hpl := piece_len _ hpk
    generalize hq : (pcs.take i).foldl G2 ([], []) = q at S7 g hstep hcg
    have S70 := S7
    obtain ⟨q7, wl7, nl7, hmk7, hdm7, hls7, hwl7, hac7⟩ := S70
    k_here
    refine method_inst (by k_asm) X' (InstAt.of_news (by assumption) (.tail _ hmk7) (.tail _ hdm7)) (f := 126) (by k_is) (by k_is) (by k_is) (by kernel_rfl) ?_
    k_steps
    refine Held.out ?_
    have hgl := g.len
    k_dflt (refine' chunkC hpr ?k1 ?k2 ?k3 ?k4 ?k5 ?kK (S7.grow (led' := (I7, ito7) :: led7) fun _ h => .tail _ h) (G7.1 (G5.1 G)) (ht7.mono fun o h => .tail _ h) (ht27.mono fun o h => .tail _ h) ?z1 ?z2 hpl.1 ?z3 ?z4 ?z5 ?kd ?ku ?_; (case k1 => k_asm); (case k2 => k_asm); (case k3 => k_asm); (case k4 => k_asm); (case k5 => k_asm); (case kK => first | exact rfl | assumption); (case kd => ktr_room); (case ku => first | ktr_units | (show un + 1 + 150 < cLine; ktr_units) | (show un + 1 + 3 + 150 < cLine; ktr_units)))
    case z1 => rw [List.length_map]; omega
    case z2 =>
      intro y hy
      obtain ⟨p, hp, rfl⟩ := List.mem_map.mp hy
      have := piece_len p (g.okC p hp)
      exact ⟨this.1, by omega⟩
    case z3 => omega
    case z4 => rw [List.length_map]; omega
    case z5 =>
      intro j y hj hy
      rw [List.length_map] at hj
      rw [List.getElem?_map] at hy
      obtain ⟨p, hp, rfl⟩ := Option.map_eq_some_iff.mp hy
      rw [piece_last p (g.okC p (List.mem_of_getElem? hp)), g.low j p hj hp]
      rfl
    intro s8 led8 F8 N8 G8 S8 ht8 ht28 hk8
    rw [hcg, ← hstep] at S8
    have hx7 : ∃ o, (x, o) ∈ led7 ∧ ∃ o, (dx, o) ∈ led7 := by
      obtain ⟨_, _, _, _, _, hx, hdx, _, _⟩ := hac7
      exact ⟨_, hx, _, hdx⟩
    obtain ⟨ox, hx7, odx, hdx7⟩ := hx7
    have hI8 : (I7, ito7) ∈ led8 := hk8 _ (.head _) (Ne.symm (ho7 _ hx7)) (Ne.symm (ho7 _ hdx7)) (Ne.symm (ho7 _ hls7)) (ht7.off ho7) (ht27.off ho7)
    k_steps
    rename Fr _ _ _ _ => F9
    rename News _ _ _ _ => N9
    refine ⟨G7.trans ((Goes.same _ _).trans G8), _, _, F9, N9, hI8, fun led'' h1 h2 => ⟨S8.but N9 hI8 hc7 h1, ht8.keep (ht8.ne N9 hI8 (by rw [hc7]; intro h; cases h)) h1, ht28.keep (ht28.ne N9 hI8 (by rw [hc7]; intro h; cases h)) h1, fun q hq n1 n2 => ?_, .cons rfl .nil⟩⟩
    have hq7 := hk7 q hq n1 n2
    have lq := ldm q hq
    exact h1 _ (hk8 _ (.tail _ hq7) (Nat.ne_of_lt (Nat.lt_trans lq lx)) (Nat.ne_of_lt (Nat.lt_trans lq ldx)) (Nat.ne_of_lt (Nat.lt_trans lq lls)) n1 n2) (ho7 _ hq7)
  · intro m7 led7 s7 hJ9 G7 F7 N7
    obtain ⟨S7, ht7, ht27, hk7, hm7⟩ := hJ9
    rw [hwl, List.take_length] at S7
    have g := GI.fold hok pcs.length (Nat.le_refl _)
    rw [List.take_length] at g
    have hcne := fold_ne hok hne
    have hrows : rowsOf (fun p : Pc => p.2) pcs = (pcs.foldl G2 ([], [])).1 ++ [(pcs.foldl G2 ([], [])).2] := rfl
    generalize hq : pcs.foldl G2 ([], []) = q at S7 g hcne hrows
    obtain ⟨Lr, cur⟩ := q
    dsimp only at S7 hcne hrows
    obtain ⟨c', pl, rfl⟩ : ∃ r p, cur = r ++ [p] := ⟨_, _, (List.dropLast_concat_getLast hcne).symm⟩
    rw [List.map_append, List.map_singleton] at S7
    replace F7 : Fr g' L' s7.heap _ := fr_pins F7 hm7
    replace N7 : News g' L' s7.heap led7 := N7
    k_steps
    refine Held.out ?_
    k_dflt (refine' accNew0 hpr ?k1 ?k2 ?k3 ?k4 ?k5 ?kK ?kd ?ku ?_; (case k1 => k_asm); (case k2 => k_asm); (case k3 => k_asm); (case k4 => k_asm); (case k5 => k_asm); (case kK => first | exact rfl | assumption); (case kd => ktr_room); (case ku => first | ktr_units | (show un + 1 + 150 < cLine; ktr_units) | (show un + 1 + 3 + 150 < cLine; ktr_units)))
    intro s8 led8 x2 dx2 F8 N8 G8 S8 hk8 l8 l82
    have S78 := S7.grow hk8
    have ht8 : LenTab led8 := ht7.mono fun o h => hk8 _ h
    have ht28 : StrTab led8 := ht27.mono fun o h => hk8 _ h
    k_steps
    refine Held.out ?_
    have S780 := S78
    obtain ⟨q8, wl8, nl8, hmk8, hdm8, hls8, hwl8, hac8⟩ := S780
    k_here
    refine method_inst (by k_asm) X' (InstAt.of_news (by assumption) hmk8 hdm8) (f := 77) (by k_is) (by k_is) (by k_is) (by kernel_rfl) ?_
    k_steps
    refine Held.out ?_
    have hgl : Lr.length + (c' ++ [pl]).length ≤ pcs.length := g.len
    rw [List.length_append, List.length_singleton] at hgl
    have hokc : ∀ p ∈ c' ++ [pl], p.ok := g.okC
    have A7 : Goes s s8 := (Goes.same _ _).trans (G5.trans ((Goes.same _ _).trans (G7.trans G8)))
    k_dflt (refine' strMC hpr ?k1 ?k2 ?k3 ?k4 ?k5 ?kK S78 (A7.1 G) ht8 ht28 ?z1 ?z2 ?z3 ?z4 (piece_ok pl (hokc pl (List.mem_append_right _ (.head _)))) ?z5 ?kd ?ku ?_; (case k1 => k_asm); (case k2 => k_asm); (case k3 => k_asm); (case k4 => k_asm); (case k5 => k_asm); (case kK => first | exact rfl | assumption); (case kd => ktr_room); (case ku => first | ktr_units | (show un + 1 + 150 < cLine; ktr_units) | (show un + 1 + 3 + 150 < cLine; ktr_units)))
    case z1 => rw [List.length_map]; omega
    case z2 =>
      intro y hy
      rw [← List.map_singleton, ← List.map_append] at hy
      obtain ⟨p, hp, rfl⟩ := List.mem_map.mp hy
      have := piece_len p (hokc p hp)
      exact ⟨this.1, by omega⟩
    case z3 => rw [List.length_map]; omega
    case z4 =>
      intro y hy
      obtain ⟨r, hr, rfl⟩ := List.mem_map.mp hy
      have h1 := row_len (g.okL r hr)
      have h2 := g.lenR r hr
      omega
    case z5 =>
      rw [← List.map_singleton, ← List.map_append]
      exact row_nosp hokc (by simp)
    rw [← List.map_singleton (f := pieceS), ← List.map_append]
    intro s9 led9 t9 F9 N9 G9 ht9 ht29 hk9
    have hrs : Lr.map rowS ++ [catS ((c' ++ [pl]).map pieceS)] = (rowsOf (fun p : Pc => p.2) pcs).map rowS := by
      rw [hrows, List.map_append (f := rowS)]; rfl
    rw [hrs]
    k_steps
    refine Held.out ?_
    k_here
    have hallR : ∀ r ∈ rowsOf (fun p : Pc => p.2) pcs, (∀ p ∈ r, p.ok) ∧ r.length ≤ 18 ∧ r ≠ [] := by
      rw [hrows]
      intro r hr
      rcases List.mem_append.mp hr with hr | hr
      · exact ⟨g.okL r hr, Nat.le_trans (g.lenR r hr) hlen, g.neL r hr⟩
      · rw [List.mem_singleton.mp hr]
        exact ⟨hokc, by rw [List.length_append, List.length_singleton]; omega, hcne⟩
    have hnR : (rowsOf (fun p : Pc => p.2) pcs).length ≤ 18 := by
      rw [hrows, List.length_append, List.length_singleton]; omega
    have hneR : rowsOf (fun p : Pc => p.2) pcs ≠ [] := by rw [hrows]; simp
    have hboolR := rows_bool pcs
    generalize hRR : rowsOf (fun p : Pc => p.2) pcs = RR at *
    have hsplit : Txt.split (Txt.join (Str.ofString "\n") (RR.map rowS)) (Str.ofString "\n") = RR.map rowS := by
      rw [show Str.ofString "\n" = ⟨#[10]⟩ from by decide +kernel]
      refine split_join (by simpa using hneR) fun y hy => ?_
      obtain ⟨r, hr, rfl⟩ := List.mem_map.mp hy
      exact fun hc => (row_chars (hallR r hr).1 10 hc).2 rfl
    refine KSpl.split1 (by k_asm) (by k_asm) (by decide) ?_ ?size
    case size =>
      have h1 := join_len (Str.ofString "\n") (by decide +kernel) (RR.map rowS)
      have h2 := sum_le (RR.map rowS) (k := 144) fun y hy => by
        obtain ⟨r, hr, rfl⟩ := List.mem_map.mp hy
        have h1 := row_len (hallR r hr).1
        have h2 := (hallR r hr).2.1
        omega
      rw [List.length_map] at h1 h2
      rw [sizeLine_eq]
      omega
    intro D l hD kD eD aD FD ND lD
    rw [hsplit] at eD
    rw [eD] at aD
    k_steps
    refine Held.out ?_
    have hRB : RR.map (·.map (·.2)) = rowsOf id (pcs.map (·.2)) := hboolR
    have hword : wordB (pcs.map (·.2)) = (stB (rowsOf id (pcs.map (·.2))) (rowsOf id (pcs.map (·.2))).length).2.2 := by
      unfold wordB stB; rw [List.take_length]
    rw [hword] at hret
    have hRl : (rowsOf id (pcs.map (·.2))).length = RR.length := by rw [← hRB, List.length_map]
    have hR18 : ∀ r ∈ rowsOf id (pcs.map (·.2)), r.length ≤ 18 := by
      rw [← hRB]
      intro r hr
      obtain ⟨r', hr', rfl⟩ := List.mem_map.mp hr
      rw [List.length_map]; exact (hallR r' hr').2.1
    have hRat : ∀ (k : Nat) (r : List Pc), RR[k]? = some r → (rowsOf id (pcs.map (·.2)))[k]? = some (r.map (·.2)) := fun k r h => by rw [← hRB, List.getElem?_map, h]; rfl
    generalize rowsOf id (pcs.map (·.2)) = RB at *
    have hvl : (strValues l).length = RR.length := by rw [aD.len_eq, List.length_map]
    have A9 : Goes s s9 := A7.trans ((Goes.same _ _).trans G9)
    have lx2 : ∀ {b : Addr} {o : Obj}, (b, o) ∈ led7 → b < x2 := fun h => Nat.lt_trans (l8 _ h) l82
    obtain ⟨q70, wl70, nl70, hmk70, hdm70, hls70, hwl70, hac70⟩ := id S7
    obtain ⟨n70, hsh70, tk70, u70, as70, hx70, hdx70, -, -⟩ := id hac70
    have hl175' : 175 < dx2 := by rcases ht7 with h | ⟨c, h⟩ <;> exact l8 _ h
    have hl182' : 182 < dx2 := by rcases ht27 with h | ⟨c, h⟩ <;> exact l8 _ h
    have S9 : AccIs led9 x2 dx2 ([] : List Str) := by
      obtain ⟨n, hsh, tk, u, as, hx, hdx, hl, -⟩ := S8
      refine ⟨n, hsh, tk, u, as, hk9 _ hx (Nat.ne_of_gt (lx2 hx70)) (Nat.ne_of_gt (lx2 hdx70)) (Nat.ne_of_gt (lx2 hls70)) (Nat.ne_of_gt (Nat.lt_trans hl175' l82)) (Nat.ne_of_gt (Nat.lt_trans hl182' l82)), hk9 _ hdx (Nat.ne_of_gt (l8 _ hx70)) (Nat.ne_of_gt (l8 _ hdx70)) (Nat.ne_of_gt (l8 _ hls70)) (Nat.ne_of_gt hl175') (Nat.ne_of_gt hl182'), hl, fun i b p hb hp => by cases hp⟩
    have hkN : ∀ q ∈ news, q.1 ≠ 175 → q.1 ≠ 182 → q ∈ led9 ∧ (@LT.lt Nat _ q.1 dx2) := fun q hq n1 n2 => by
      have lq := ldm q hq
      have hq7 := hk7 q hq n1 n2
      exact ⟨hk9 _ (hk8 _ hq7) (Nat.ne_of_lt (Nat.lt_trans lq lx)) (Nat.ne_of_lt (Nat.lt_trans lq ldx)) (Nat.ne_of_lt (Nat.lt_trans lq lls)) n1 n2, l8 _ hq7⟩
    clear hk9 hk8 hk7
    refine iter_listG (n := 0) (J := JR2 x2 dx2 D (listOf (strValues l).toArray 0) news RB) rfl FD ND ⟨S9.grow fun _ h => .tail _ h, ht9.mono fun o h => .tail _ h, ht29.mono fun o h => .tail _ h, .head _, fun q hq n1 n2 => .tail _ (hkN q hq n1 n2).1, _, _, .cons rfl (.cons rfl (.cons rfl .nil))⟩ (fun i m led ⟨_, _, _, h, _, _, _, _⟩ => h) ?_ ?_ (by passes_own) (fun _ _ => rfl)
    · intro k v m10 led10 s10 I10 ito10 hv hJ9 G10 ho10 F10 hc10 N10
      obtain ⟨S10, ht10, ht210, hD10, hk10, tn, tw, hm10a⟩ := hJ9
      replace F10 : Fr g' L' s10.heap _ := fr_pins F10 hm10a
      replace N10 : News g' L' s10.heap ((I10, ito10) :: led10) := N10
      have hk : k < RR.length := by rw [← hvl]; exact (List.getElem?_eq_some_iff.mp hv).1
      obtain ⟨tv, hv2⟩ := aD.at (j := k) (y := rowS RR[k]) (by rw [List.getElem?_map, List.getElem?_eq_getElem hk]; rfl)
      rw [hv] at hv2
      cases hv2
      obtain ⟨hrok, hrl, hrne⟩ := hallR _ (List.getElem_mem hk)
      have hRk := hRat k _ (List.getElem?_eq_getElem hk)
      have h40 := row_40 hrok
      have h41 := row_41 hrok
      rw [hone _ (List.mem_of_getElem? hRk)] at h41
      have hps := hpos _ _ hRk
      have hsz := stB_len hR18 k (by rw [hRl]; exact Nat.le_of_lt hk)
      have hst := stB_succ hRk
      have hrb := row_len hrok
      have hrt := row_txt _ hrok
      have hrtk := row_tok hrok
      have hrc := row_chars hrok
      generalize hrr : RR[k] = row at *
      have ho18 : (row.map (·.2)).count true ≤ 18 := Nat.le_trans List.count_le_length (by rw [List.length_map]; exact hrl)
      k_steps
      refine Held.out ?_
      k_here
      refine Byf.encode (fun c hc => (hrc c hc).1) (by omega) ?_
      intro tb kb
      k_steps
      refine Held.out ?_
      have A10 : Goes s s10 := A9.trans ((Goes.same _ _).trans G10)
      have hwz : ((stB RB k).1.map letS).length < 2 ^ 9 := by rw [List.length_map]; omega
      have hl1 : ∀ (l : List Int), ∀ q ∈ l.map letS, q.length < 2 ^ 9 := fun l q hq => by
        obtain ⟨y, _, rfl⟩ := List.mem_map.mp hq
        show 1 < 2 ^ 9
        decide
      k_dflt (refine' lenB ?k1 ?k2 ?k3 ?k4 ?k5 ?kK (S10.grow (led' := (I10, ito10) :: led10) fun _ h => .tail _ h) (A10.1 G) (ht10.mono fun o h => .tail _ h) hwz (hl1 _) ?kd ?ku ?_; (case k1 => k_asm); (case k2 => k_asm); (case k3 => k_asm); (case k4 => k_asm); (case k5 => k_asm); (case kK => first | exact rfl | assumption); (case kd => ktr_room); (case ku => first | ktr_units | (show un + 1 + 150 < cLine; ktr_units) | (show un + 1 + 3 + 150 < cLine; ktr_units)))
      intro s11 led11 t11 F11 N11 G11 ht11 S11 hk11
      rw [show lenS ((stB RB k).1.map letS) = (stB RB k).1.length from lenS_let _]
      k_steps
      refine Held.out ?_
      k_dflt (refine' parenC (rowT row) ?k1 ?k2 ?k3 ?k4 ?k5 ?kK ?a1 hrtk ?a2 ?a3 ?a4 ?kd ?ku ?_; (case k1 => k_asm); (case k2 => k_asm); (case k3 => k_asm); (case k4 => k_asm); (case k5 => k_asm); (case kK => first | exact rfl | assumption); (case kd => ktr_room); (case ku => first | ktr_units | (show un + 1 + 150 < cLine; ktr_units) | (show un + 1 + 3 + 150 < cLine; ktr_units)))
      case a1 => exact bytes_back hrt fun c hc => (hrc c hc).1
      case a2 =>
        rw [Array.size_map]
        show (rowS row).length < _
        omega
      case a3 => omega
      case a4 => omega
      intro s12 led12 t12 F12 N12 G12 hk12
      rw [h40, h41]
      have ht12 : LenTab led12 := ht11.mono fun o h => hk12 _ h
      have S12 := S11.grow hk12
      have hk12' : ∀ q ∈ (I10, ito10) :: led10, q.1 ≠ 175 → q ∈ led12 := fun q hq n1 => hk12 _ (hk11 q hq n1)
      clear hk11 hk12 S11 ht11
      generalize ho : (row.map (·.2)).count true = o at *
      k_steps
      refine Held.out ?_
      rename Fr _ _ _ _ => F13
      rename News _ _ _ _ => N13
      generalize hc0 : (stB RB k).1 = wt at *
      generalize hc1 : (stB RB k).2.1 = nm at *
      generalize hc2 : (stB RB k).2.2 = wd at *
      have S12' : AccIs led12 x2 dx2 ((wt ++ namesB nm (o - o)).map letS) := by rw [Nat.sub_self]; simpa [namesB] using S12
      refine whl_down (fun κ s1 => JRW s12 g' L' x2 dx2 ((I10, ito10) :: led10) wt nm o wd κ s1) ?_ o _ _ ⟨led12, _, _, _, _, Goes.same _ _, F13, N13, S12', ht12, Nat.le_refl _, fun q hq n1 _ => hk12' q hq n1, .cons rfl (.cons (by rw [Nat.sub_self]; rfl) (.cons rfl (.cons rfl .nil)))⟩
      clear S12' N13 F13 S12 ht12
      rintro κ s1 ⟨led3, m3, tn3, td3, tw3, G3, F3, N3, S3, ht3, hκ, hk3, hm3a⟩ ih
      replace F3 : Fr g' L' s1.heap _ := fr_pins F3 hm3a
      replace N3 : News g' L' s1.heap led3 := N3
      have A1 : Goes s s1 := A10.trans ((Goes.same _ _).trans (G11.trans (G12.trans G3)))
      have hwz3 : ((wt ++ namesB nm (o - κ)).map letS).length < 2 ^ 9 := by rw [List.length_map, List.length_append, namesB_len]; omega
      have hwz4 : (wt ++ namesB nm (o - κ)).length = wt.length + (o - κ) := by rw [List.length_append, namesB_len]
      k_dflt (refine' whl_turn (k := 0) ?hE ?_; (case hE => passes_own))
      k_steps
      refine Held.out ?_
      k_dflt (refine' lenB ?k1 ?k2 ?k3 ?k4 ?k5 ?kK S3 (A1.1 G) ht3 hwz3 (hl1 _) ?kd ?ku ?_; (case k1 => k_asm); (case k2 => k_asm); (case k3 => k_asm); (case k4 => k_asm); (case k5 => k_asm); (case kK => first | exact rfl | assumption); (case kd => ktr_room); (case ku => first | ktr_units | (show un + 1 + 150 < cLine; ktr_units) | (show un + 1 + 3 + 150 < cLine; ktr_units)))
      intro s4 led4 t4 F4 N4 G4 ht4 S4 hk4
      rw [show lenS ((wt ++ namesB nm (o - κ)).map letS) = wt.length + (o - κ) from (lenS_let _).trans hwz4]
      k_steps
      have e175 : (175 : Addr) ≠ x2 := Nat.ne_of_lt (Nat.lt_trans hl175' l82)
      rcases Nat.eq_zero_or_pos κ with hk0 | hk0
      · subst hk0
        rw [Nat.sub_zero] at S4 hwz4 hwz3
        refine WhlIf.no (decide_eq_false (by omega)) ?_
        have hwl0 : 0 < (wt ++ namesB nm o).length := by omega
        rw [last_split hwl0] at S4
        generalize hlst : (wt ++ namesB nm o).getD ((wt ++ namesB nm o).length - 1) 0 = lst at *
        obtain ⟨n4, hsh4, tk4, u4, as4, hx4, hdx4, hl4, hp4⟩ := id S4
        have hwz5 : ((wt ++ namesB nm o).dropLast.map letS).length < 2 ^ 16 := by rw [List.length_map, List.length_dropLast]; omega
        have hwdz : wd.length ≤ 18 := by omega
        have hwd1 : (wordS wd).length ≤ 18 := by
          show ((wd.map fun k => (96 + k).toNat).toArray).size ≤ 18
          rw [List.size_toArray, List.length_map]; exact hwdz
        have hwd2 : (letS lst).length = 1 := rfl
        k_steps
        refine Held.out ?_
        k_dflt (refine' popC hpr ?k1 ?k2 ?k3 ?k4 ?k5 ?kK S4 hwz5 ?kd ?ku ?_; (case k1 => k_asm); (case k2 => k_asm); (case k3 => k_asm); (case k4 => k_asm); (case k5 => k_asm); (case kK => first | exact rfl | assumption); (case kd => ktr_room); (case ku => first | ktr_units | (show un + 1 + 150 < cLine; ktr_units) | (show un + 1 + 3 + 150 < cLine; ktr_units)))
        intro s5' led5' b5 t5 t5' F5' N5' G5' S5' hb5 hk5'
        k_steps
        rename Fr _ _ _ _ => F6
        rename News _ _ _ _ => N6
        have hst1 : stB RB (k + 1) = ((wt ++ namesB nm o).dropLast, nm + o, wd ++ [lst]) := by rw [hst, readB_eq, hc0, hc1, hc2, ho, hlst]
        obtain ⟨n10, hsh10, tk10, u10, as10, hx10, hdx10, -, -⟩ := id S10
        have hIx : I10 ≠ x2 := Ne.symm (ho10 _ hx10)
        have hkk : ∀ q ∈ (I10, ito10) :: led10, q.1 ≠ 175 → q.1 ≠ x2 → q ∈ led5' := fun q hq n1 n2 => hk5' _ (hk4 _ (hk3 q hq n1 n2) n1) n2
        have hI5 : (I10, ito10) ∈ led5' := hkk _ (.head _) (ht10.off ho10) hIx
        have ht5' : LenTab led5' := ht4.keep e175 hk5'
        have hD175 : D ≠ 175 := by rcases ht9 with h | ⟨c, h⟩ <;> exact Nat.ne_of_gt (lD _ h)
        have hDx2 : D ≠ x2 := by
          obtain ⟨_, _, _, _, _, hx, _⟩ := S9
          exact Nat.ne_of_gt (lD _ hx)
        have e182 : (182 : Addr) ≠ x2 := Nat.ne_of_lt (Nat.lt_trans hl182' l82)
        refine ⟨G10.trans ((Goes.same _ _).trans (G11.trans (G12.trans (G3.trans (G4.trans (G5'.trans (Goes.same _ _))))))), _, _, F6, N6, hI5, fun led'' h1 h2 => ?_⟩
        refine ⟨?_, ht5'.keep (ht5'.ne N6 hI5 (by rw [hc10]; intro h; cases h)) h1, ht210.mono fun o h => h1 _ (hkk _ (.tail _ h) (show (182 : Addr) ≠ 175 by decide) e182) (Ne.symm (ht210.off ho10)), h1 _ (hkk _ (.tail _ hD10) hD175 hDx2) (ho10 _ hD10), fun q hq n1 n2 => h1 _ (hkk _ (.tail _ (hk10 q hq n1 n2)) n1 (Nat.ne_of_lt (Nat.lt_trans (hkN q hq n1 n2).2 l82))) (ho10 _ (hk10 q hq n1 n2)), tn3, _, .cons rfl (.cons (by (rw [hst1]) <;> rfl) (.cons (by rw [hst1]; exact congrArg (fun z => some (Value.str z _)) (wordS_push wd lst)) .nil))⟩
        rw [hst1]
        exact S5'.but N6 hI5 hc10 h1
      · refine WhlIf.yes (decide_eq_true (by omega)) ?_
        obtain ⟨n4, hsh4, tk4, u4, as4, hx4, hdx4, hl4, hp4⟩ := id S4
        have hwz5 : ((wt ++ namesB nm (o - κ)).map letS).length < 2 ^ 16 := by omega
        k_steps
        refine Held.out ?_
        k_dflt (refine' pushC ?k1 ?k2 ?k3 ?k4 ?k5 ?kK S4 hwz5 ?kd ?ku ?_; (case k1 => k_asm); (case k2 => k_asm); (case k3 => k_asm); (case k4 => k_asm); (case k5 => k_asm); (case kK => first | exact rfl | assumption); (case kd => ktr_room); (case ku => first | ktr_units | (show un + 1 + 150 < cLine; ktr_units) | (show un + 1 + 3 + 150 < cLine; ktr_units)))
        intro s5' led5' F5' N5' G5' S5' hk5'
        k_steps
        have en : ((nm + (o - κ) : Nat) : Int) + 1 = ((nm + (o - (κ - 1)) : Nat) : Int) := by omega
        refine Held.out (ih (κ - 1) _ _ (by omega) ⟨led5', _, _, _, _, G3.trans (G4.trans ((Goes.same _ _).trans G5')), F5', N5', ?_, ht4.keep ?_ hk5', by omega, fun q hq n1 n2 => hk5' _ (hk4 _ (hk3 q hq n1 n2) n1) n2, .cons rfl (.cons (congrArg (fun z => some (Value.int z _)) en) (.cons rfl (.cons rfl .nil)))⟩)
        · have e1 : o - (κ - 1) = (o - κ) + 1 := by omega
          have e2 : (⟨#[((96 : Int) + (((nm + (o - κ) : Nat) : Int) + 1)).toNat]⟩ : Str) = letS ((nm + (o - κ) + 1 : Nat) : Int) := rfl
          rw [e1, namesB_succ, ← List.append_assoc, List.map_append, List.map_singleton, ← e2]
          exact S5'
        · exact e175
    · intro m10 led10 s10 hJ9 G10 F10 N10
      obtain ⟨S10, ht10, ht210, hD10, hk10, tn, tw, hm10a⟩ := hJ9
      rw [hvl, ← hRl] at hm10a
      replace F10 : Fr g' L' s10.heap _ := fr_pins F10 hm10a
      replace N10 : News g' L' s10.heap led10 := N10
      have A10 : Goes s s10 := A9.trans ((Goes.same _ _).trans G10)
      k_steps
      exact hret _ led10 _ (by k_asm) (by k_asm) (A10.trans (Goes.same _ _)) ht10 ht210 hk10
end
end XRead
section XPlain
set_option maxRecDepth 100000

noncomputable def wordI (B : BSt) : List Int := B.cls.map (96 + ·)
noncomputable def placesI (B : BSt) : List Int := (List.range B.cls.length).map fun (k : Nat) => 97 + (((wordI B).idxOf (97 + (k : Int)) : Nat) : Int)
noncomputable def rowsB (B : BSt) : List (List Bool) := rowsOf id B.bs
noncomputable def factsB (B : BSt) : Bool :=
  decide (1 ≤ B.cls.length) && (decide (B.cls.length ≤ 9) && (decide (1 ≤ B.bs.length) && (decide (B.bs.length ≤ 18) && (decide (B.pars.length = B.cls.length + 1) && (B.pars.all (fun p => decide (0 ≤ p) && decide (p < B.pars.length)) && (B.cls.all (fun p => decide (1 ≤ p) && decide (p < B.pars.length)) &&
  ((List.range B.cls.length).all (fun (k : Nat) => decide ((97 + (k : Int)) ∈ wordI B)) &&
  ((rowsB B).all (fun r => r.count false == 1) && ((List.range (rowsB B).length).all (fun k => decide (0 < (((rowsB B).take k).foldl readB ([], 0, [])).1.length + ((rowsB B).getD k []).count true)) && decide (wordB B.bs = B.cls))))))))))
structure Facts (B : BSt) : Prop where
  n1 : 1 ≤ B.cls.length
  n9 : B.cls.length ≤ 9
  b1 : 1 ≤ B.bs.length
  b18 : B.bs.length ≤ 18
  pl : B.pars.length = B.cls.length + 1
  pr : ∀ p ∈ B.pars, 0 ≤ p ∧ p < B.pars.length
  cr : ∀ p ∈ B.cls, 1 ≤ p ∧ p < B.pars.length
  wm : ∀ k < B.cls.length, (97 + (k : Int)) ∈ wordI B
  r1 : ∀ r ∈ rowsB B, r.count false = 1
  rp : ∀ k < (rowsB B).length, 0 < (((rowsB B).take k).foldl readB ([], 0, [])).1.length + ((rowsB B).getD k []).count true
  wd : wordB B.bs = B.cls
theorem facts_of {B : BSt} (h : factsB B = true) : Facts B := by
  unfold factsB at h
  simp only [Bool.and_eq_true, decide_eq_true_eq, List.all_eq_true, List.mem_range, beq_iff_eq] at h
  obtain ⟨h1, h2, h3, h4, h5, h6, h7, h8, h9, h10, h11⟩ := h
  exact ⟨h1, h2, h3, h4, h5, h6, h7, h8, h9, h10, h11⟩
noncomputable def lawB (B : BSt) : Bool := decide (tableOf (wordI B).reverse = toldOf B.pars (sortA B.cls)) && decide (tableOf (placesI B).reverse = toldOf B.pars B.cls)
theorem factsB_all : ∀ a < 3, ∀ b < 3, ∀ c < 3, ∀ d < 3, factsB (forestB [a, b, c, d]) = true := by decide +kernel
theorem lawB_00 : ∀ c < 3, ∀ d < 3, lawB (forestB [0, 0, c, d]) = true := by decide +kernel
theorem lawB_01 : ∀ c < 3, ∀ d < 3, lawB (forestB [0, 1, c, d]) = true := by decide +kernel
theorem lawB_02 : ∀ c < 3, ∀ d < 3, lawB (forestB [0, 2, c, d]) = true := by decide +kernel
theorem lawB_10 : ∀ c < 3, ∀ d < 3, lawB (forestB [1, 0, c, d]) = true := by decide +kernel
theorem lawB_11 : ∀ c < 3, ∀ d < 3, lawB (forestB [1, 1, c, d]) = true := by decide +kernel
theorem lawB_12 : ∀ c < 3, ∀ d < 3, lawB (forestB [1, 2, c, d]) = true := by decide +kernel
theorem lawB_20 : ∀ c < 3, ∀ d < 3, lawB (forestB [2, 0, c, d]) = true := by decide +kernel
theorem lawB_21 : ∀ c < 3, ∀ d < 3, lawB (forestB [2, 1, c, d]) = true := by decide +kernel
theorem lawB_22 : ∀ c < 3, ∀ d < 3, lawB (forestB [2, 2, c, d]) = true := by decide +kernel
theorem lawB_all {a b c d : Nat} (ha : a < 3) (hb : b < 3) (hc : c < 3) (hd : d < 3) : lawB (forestB [a, b, c, d]) = true := by
  match a, b, ha, hb with
  | 0, 0, _, _ => exact lawB_00 c hc d hd
  | 0, 1, _, _ => exact lawB_01 c hc d hd
  | 0, 2, _, _ => exact lawB_02 c hc d hd
  | 1, 0, _, _ => exact lawB_10 c hc d hd
  | 1, 1, _, _ => exact lawB_11 c hc d hd
  | 1, 2, _, _ => exact lawB_12 c hc d hd
  | 2, 0, _, _ => exact lawB_20 c hc d hd
  | 2, 1, _, _ => exact lawB_21 c hc d hd
  | 2, 2, _, _ => exact lawB_22 c hc d hd
theorem four {ds : List Int} (h : ds.length = 4) : ∃ a b c d, a < 3 ∧ b < 3 ∧ c < 3 ∧ d < 3 ∧ (forestOf ds).b = forestB [a, b, c, d] := by
  match ds, h with
  | [x, y, z, u], _ => exact ⟨_, _, _, _, kOf_lt x, kOf_lt y, kOf_lt z, kOf_lt u, forest_b _⟩
theorem factsB_of {ds : List Int} (h : ds.length = 4) : factsB (forestOf ds).b = true := by
  obtain ⟨a, b, c, d, ha, hb, hc, hd, e⟩ := four h
  rw [e]
  exact factsB_all a ha b hb c hc d hd
theorem lawB_of {ds : List Int} (h : ds.length = 4) : lawB (forestOf ds).b = true := by
  obtain ⟨a, b, c, d, ha, hb, hc, hd, e⟩ := four h
  rw [e]
  exact lawB_all ha hb hc hd
end XPlain
section XLawP
set_option maxRecDepth 100000

example : True := by
  k_with_none
  trivial

open StrLaws
theorem idx_min {α : Type} [BEq α] [LawfulBEq α] : ∀ (l : List α) (c : α) (k : Nat), k < l.idxOf c → l[k]? ≠ some c
  | [], c, k, h => by simp
  | a :: l, c, k, h => by
    rw [List.idxOf_cons] at h
    by_cases e : (a == c) = true
    · rw [e] at h; simp at h
    · have e' : (a == c) = false := by simpa using e
      rw [e'] at h
      simp only [cond_false] at h
      cases k with
      | zero =>
        intro e2
        have : a = c := by simpa using e2
        exact e (by rw [this]; simp)
      | succ k => exact idx_min l c k (by omega)
theorem idx_at {α : Type} [BEq α] [LawfulBEq α] {l : List α} {c : α} (h : c ∈ l) : l[l.idxOf c]? = some c := by
  have := List.idxOf_lt_length_of_mem h
  rw [List.getElem?_eq_getElem this, List.getElem_idxOf]
theorem index_one {x : Str} {c : Nat} (h : c ∈ x.cps.toList) : ∃ r, Builtin.Str.occurrences x ⟨#[c]⟩ 0 x.length 1 = x.cps.toList.idxOf c :: r := by
  have at1 : ∀ i, StrLaws.At x ⟨#[c]⟩ x.length i ↔ x.cps.toList[i]? = some c := fun i => subAt_one x c i
  rcases occ_head_from x ⟨#[c]⟩ 0 1 (Nat.le_refl _) with ⟨_, hn⟩ | ⟨i, r, e, _, ha, hm⟩
  · exact absurd ((at1 _).mpr (idx_at h)) (hn _ (Nat.zero_le _))
  · refine ⟨r, ?_⟩
    rw [e]
    have e1 : i = x.cps.toList.idxOf c := by
      rcases Nat.lt_trichotomy i (x.cps.toList.idxOf c) with h1 | h1 | h1
      · exact absurd ((at1 i).mp ha) (idx_min _ _ _ h1)
      · exact h1
      · exact absurd ((at1 _).mpr (idx_at h)) (hm _ (Nat.zero_le _) h1)
    rw [e1]
theorem idx_toNat : ∀ (l : List Int) (a : Int), (∀ x ∈ l, 0 ≤ x) → 0 ≤ a → (l.map Int.toNat).idxOf a.toNat = l.idxOf a
  | [], a, _, _ => rfl
  | x :: l, a, h, ha => by
    have hx := h x (.head _)
    rw [List.map_cons, List.idxOf_cons, List.idxOf_cons, idx_toNat l a (fun y hy => h y (.tail _ hy)) ha]
    have e : (x.toNat == a.toNat) = (x == a) := by
      rw [Bool.eq_iff_iff, beq_iff_eq, beq_iff_eq]
      omega
    rw [e]
theorem join_one {α : Type} (f : α → Nat) (l : List α) : Txt.join (Str.ofString "") (l.map fun k => (⟨#[f k]⟩ : Str)) = ⟨(l.map f).toArray⟩ := by
  have e : ∀ l : List α, Str.join (Str.ofString "") (l.map fun k => (⟨#[f k]⟩ : Str)) = ⟨(l.map f).toArray⟩ := by
    intro l
    induction l with
    | nil => rfl
    | cons a r ih =>
      cases r with
      | nil => rfl
      | cons b r =>
        have e1 : Str.join (Str.ofString "") ((a :: b :: r).map fun k => (⟨#[f k]⟩ : Str)) = (⟨#[f a]⟩ : Str) ++ Str.ofString "" ++ Str.join (Str.ofString "") ((b :: r).map fun k => (⟨#[f k]⟩ : Str)) := rfl
        rw [e1, ih]
        apply str_ext
        rw [app_list, app_list]
        rfl
  exact (glued_eq_join _ _).trans (e l)
noncomputable def natS (l : List Int) : Str := ⟨(l.map Int.toNat).toArray⟩
theorem natS_len (l : List Int) : (natS l).length = l.length := by
  show ((l.map Int.toNat).toArray).size = _
  rw [List.size_toArray, List.length_map]
theorem wordS_nat (l : List Int) : wordS l = natS (l.map (96 + ·)) := by
  unfold wordS natS
  rw [List.map_map]
  rfl
theorem dn_ints {n : Nat} {b arr : Array UInt8} (D : Dn 2 0 n b arr) (hb : b.size = 2 * n) : KBw.bInts arr = ((KBw.bInts b).take n).reverse ++ ((KBw.bInts b).drop n).reverse := by
  obtain ⟨h1, h2, _⟩ := D
  have hl : (KBw.bInts b).length = 2 * n := by rw [KBw.ints_length]; exact hb
  have ht : ((KBw.bInts b).take n).length = n := by rw [List.length_take, hl]; exact Nat.min_eq_left (Nat.le_mul_of_pos_left n (by decide))
  have hd : ((KBw.bInts b).drop n).length = n := by rw [List.length_drop, hl, Nat.two_mul, Nat.add_sub_cancel]
  clear hl
  apply List.ext_getElem?
  intro i
  have g : ∀ (c : Array UInt8) (j : Nat), (KBw.bInts c)[j]? = (c[j]?).map fun x => (x.toNat : Int) := fun c j => by
    unfold KBw.bInts
    simp
  rw [g]
  have e : ∀ j, j < n → n - 1 - (n - 1 - j) = j := fun j h => by omega
  have hlt : ∀ j, j < n → n - 1 - j < n := fun j h => by omega
  by_cases hi : i < n
  · rw [List.getElem?_append_left (by rw [List.length_reverse, ht]; exact hi), List.getElem?_reverse (by rw [ht]; exact hi), ht, List.getElem?_take, if_pos (hlt i hi), g]
    have := h2 0 (n - 1 - i) (by decide) (hlt i hi)
    rw [Nat.zero_mul, Nat.zero_add, Nat.zero_add, e i hi] at this
    rw [this]
  · by_cases hi2 : i < 2 * n
    · have hin : i - n < n := by omega
      have e3 : n + (i - n) = i := Nat.add_sub_cancel' (Nat.not_lt.mp hi)
      rw [List.getElem?_append_right (by rw [List.length_reverse, ht]; exact Nat.not_lt.mp hi), List.length_reverse, ht, List.getElem?_reverse (by rw [hd]; exact hin), hd, List.getElem?_drop, g]
      have := h2 1 (n - 1 - (i - n)) (by decide) (hlt _ hin)
      rw [Nat.one_mul, e _ hin, e3] at this
      rw [this]
    · rw [List.getElem?_eq_none (by rw [List.length_append, List.length_reverse, List.length_reverse, ht, hd, ← Nat.two_mul]; exact Nat.not_lt.mp hi2), Array.getElem?_eq_none (by rw [h1]; exact Nat.not_lt.mp hi2)]
      rfl
theorem natS_app (a b : List Int) : natS a ++ natS b = natS (a ++ b) := by
  apply str_ext
  rw [app_list]
  show a.map Int.toNat ++ b.map Int.toNat = (a ++ b).map Int.toNat
  rw [List.map_append]
theorem natS_bytes {l : List Int} (h : ∀ x ∈ l, 0 ≤ x ∧ x < 256) : KBw.bInts ((natS l).cps.map (·.toUInt8)) = l := by
  unfold KBw.bInts natS
  rw [Array.toList_map, List.map_map, List.map_map]
  have e : ∀ x ∈ l, (((fun (c : UInt8) => (c.toNat : Int)) ∘ fun (c : Nat) => c.toUInt8) ∘ Int.toNat) x = x := fun x hx => by
    obtain ⟨h0, h1⟩ := h x hx
    show ((x.toNat.toUInt8.toNat : Nat) : Int) = x
    have e1 : x.toNat.toUInt8.toNat = x.toNat := by simp; omega
    rw [e1]
    omega
  rw [List.map_congr_left e, List.map_id']
theorem places_ok (B : BSt) (hn : B.cls.length ≤ 9) : ∀ x ∈ placesI B, 0 ≤ x ∧ x < 128 := fun x hx => by
  obtain ⟨k, _, rfl⟩ := List.mem_map.mp hx
  have h1 : (wordI B).idxOf (97 + (k : Int)) ≤ (wordI B).length := List.idxOf_le_length
  have h2 : (wordI B).length = B.cls.length := List.length_map ..
  omega
theorem word_ok (B : BSt) (hn : B.pars.length ≤ 10) (h : ∀ p ∈ B.cls, 1 ≤ p ∧ p < B.pars.length) : ∀ x ∈ wordI B, 0 ≤ x ∧ x < 128 := fun x hx => by
  obtain ⟨k, hk, rfl⟩ := List.mem_map.mp hx
  have := h k hk
  omega
theorem enc_facts (B : BSt) (fc : Facts B) : wordS B.cls ++ natS (placesI B) = natS (wordI B ++ placesI B) ∧ (∀ c ∈ (natS (wordI B ++ placesI B)).cps.toList, c < 128) ∧ (natS (wordI B ++ placesI B)).length = 2 * B.cls.length ∧
    ((natS (wordI B ++ placesI B)).cps.map (·.toUInt8)).size = 2 * B.cls.length ∧ KBw.bInts ((natS (wordI B ++ placesI B)).cps.map (·.toUInt8)) = wordI B ++ placesI B := by
  have n9 := fc.n9
  have pl := fc.pl
  have hall : ∀ x ∈ wordI B ++ placesI B, 0 ≤ x ∧ x < 128 := fun x hx => by
    rcases List.mem_append.mp hx with hx | hx
    · exact word_ok B (by omega) fc.cr x hx
    · exact places_ok B n9 x hx
  have h1 : (wordI B).length = B.cls.length := List.length_map ..
  have h2 : (placesI B).length = B.cls.length := by unfold placesI; rw [List.length_map, List.length_range]
  have h3 : (natS (wordI B ++ placesI B)).length = 2 * B.cls.length := by rw [natS_len, List.length_append, h1, h2]; omega
  refine ⟨?_, ?_, h3, ?_, natS_bytes fun x hx => ⟨(hall x hx).1, by have := (hall x hx).2; omega⟩⟩
  · rw [wordS_nat, natS_app]; rfl
  · intro c hc
    have hc : c ∈ (wordI B ++ placesI B).map Int.toNat := hc
    obtain ⟨x, hx, rfl⟩ := List.mem_map.mp hc
    have := hall x hx
    omega
  · rw [Array.size_map]; exact h3
theorem enc_all (B : BSt) (fc : Facts B) : ∃ b13 : Array UInt8, (wordS B.cls ++ natS (placesI B)).cps.map (·.toUInt8) = b13 ∧ (∀ c ∈ (wordS B.cls ++ natS (placesI B)).cps.toList, c < 128) ∧ (wordS B.cls ++ natS (placesI B)).length < 2 ^ 20 ∧
    b13.size = 2 * B.cls.length ∧ KBw.bInts b13 = wordI B ++ placesI B := by
  obtain ⟨e1, e2, e3, e4, e5⟩ := enc_facts B fc
  have := fc.n9
  rw [e1]
  exact ⟨_, rfl, e2, by omega, e4, e5⟩
section
variable {prog : Program} {w : World} {A : Around} {E : Value → Shared → Prop} {s : Shared}
theorem encodeB {x : Str} {t u : Tok} {b : Array UInt8} {Q : Value → Shared → Prop} (hb : x.cps.map (·.toUInt8) = b) (ha : ∀ c ∈ x.cps.toList, c < 128) (hsz : x.length < 2 ^ 20) (h : ∀ t' k, Q (.bytes b t') { s with toks := k }) : wpAny (model prog w) A (call (.builtin "str.encode") [.str x t, .str Byf.asc u]) Q E s :=
  Byf.encode ha hsz fun t' k => by rw [hb]; exact h t' k
end
end XLawP
section XRowEq
set_option maxRecDepth 100000

example : True := by
  k_with_none
  trivial

open PyProof.V PySem.Spec
noncomputable def rowsD (rows : List (List Int)) : PyData := .list (rows.map fun r => .list (r.map .int))
theorem rows_can : ∀ rows : List (List Int), PyData.canLayAll0 (rows.map fun r => .list (r.map .int)) = true
  | [] => rfl
  | r :: rows => by simp [PyData.canLayAll0, PyData.canLay0, ke_canLayAll0, rows_can rows]
theorem rows_depth : ∀ rows : List (List Int), PyData.depthAll (rows.map fun r => .list (r.map .int)) ≤ 1
  | [] => by simp [PyData.depthAll]
  | r :: rows => by
    have := rows_depth rows
    simp only [List.map_cons, PyData.depthAll, PyData.depth, ke_depthAll]
    omega
theorem rows_shaped (rows : List (List Int)) : SeqAt.shaped (rowsD rows) = true := by
  have := rows_depth rows
  unfold SeqAt.shaped rowsD
  simp only [PyData.canLay0, PyData.depth, rows_can, Bool.true_and]
  exact decide_eq_true (by omega)
theorem rows_eqv : ∀ rows : List (List Int), PyData.eqvAll (rows.map fun r => .list (r.map .int)) (rows.map fun r => .list (r.map .int)) = true
  | [] => by simp [PyData.eqvAll]
  | r :: rows => by simp [PyData.eqvAll, PyData.eqv, ked_eqvAll, rows_eqv rows]
theorem rowsD_eqv (rows : List (List Int)) : PyData.eqv (rowsD rows) (rowsD rows) = true := by
  unfold rowsD
  simp only [PyData.eqv, rows_eqv]
section
variable {prog : Program} {w : World} {A : Around} {E : Value → Shared → Prop} {s : Shared} {h₀ h : Heap} {L a b : Addr} {led : List (Addr × Obj)} {as bs : List Addr} {rows : List (List Int)} {n k : Nat}
theorem ints_reads (h : Heap) : ∀ {ws : List Value} {ns : List Int}, IntsAre ws ns → ReadsAll h ws (ns.map .int) []
  | _, _, .nil => .nil
  | _, _, .cons k t r => by
    have := ints_reads h r
    exact .cons (.int k t) this
theorem rows_reads (N : News h₀ L h led) : ∀ {as : List Addr} {rows : List (List Int)}, RowsAt led as rows → ∃ bs, ReadsAll h (as.map Value.ref) (rows.map fun r => .list (r.map .int)) bs
  | _, _, .nil => ⟨_, .nil⟩
  | _, _, .cons hm hi R => by
    obtain ⟨bs, hb⟩ := rows_reads N R
    exact ⟨_, .cons (reads_list_at (N _ hm).1 rfl rfl (ints_reads h hi)) hb⟩
theorem rows_read (N : News h₀ L h led) (hm : (a, listOf (as.map Value.ref).toArray n) ∈ led) (R : RowsAt led as rows) : ∃ bs, Reads h (.ref a) (rowsD rows) bs := by
  obtain ⟨bs, hb⟩ := rows_reads N R
  exact ⟨_, reads_list_at (N _ hm).1 rfl rfl hb⟩
theorem rows_eq {Q : Value → Shared → Prop} (N : News h₀ L s.heap led) (ha : (a, listOf (as.map Value.ref).toArray n) ∈ led) (Ra : RowsAt led as rows) (hb : (b, listOf (bs.map Value.ref).toArray k) ∈ led) (Rb : RowsAt led bs rows) (hu : A.units + 64 < cLine)
    (h : Q (.bool true) s) : wpAny (model prog w) A (compareOp .Eq (.ref a) (.ref b)) Q E s := by
  obtain ⟨_, r1⟩ := rows_read N ha Ra
  obtain ⟨_, r2⟩ := rows_read N hb Rb
  refine eq_dataH r1 r2 (rows_shaped _) (rows_shaped _) hu ?_
  rw [rowsD_eqv]
  exact h
theorem rows_ne {Q : Value → Shared → Prop} (N : News h₀ L s.heap led) (ha : (a, listOf (as.map Value.ref).toArray n) ∈ led) (Ra : RowsAt led as rows) (hb : (b, listOf (bs.map Value.ref).toArray k) ∈ led) (Rb : RowsAt led bs rows) (hu : A.units + 64 < cLine)
    (h : Q (.bool false) s) : wpAny (model prog w) A (compareOp .NotEq (.ref a) (.ref b)) Q E s := by
  obtain ⟨_, r1⟩ := rows_read N ha Ra
  obtain ⟨_, r2⟩ := rows_read N hb Rb
  refine ne_dataH r1 r2 (rows_shaped _) (rows_shaped _) hu ?_
  rw [rowsD_eqv]
  exact h
end
end XRowEq
section XLaw
set_option maxRecDepth 100000

example : True := by
  k_with_none
  trivial

open Sem (wp)
section
theorem enter_callC {M : Model} {A : Around} {s : Shared} {f : Value} {pos : List Value} {kw : List (Str × Value)} {c : ClaimW} {cl : Str → Option Addr} {mean : ExcName → Option Value} {args : List WData} {s₁ : Shared}
    (h : codeC M A (.call f ⟨pos, kw⟩) (GoodWG c cl mean args s₁) s) : wpC M A (PySem.call f pos kw) (fun v s' => GoodWG c cl mean args s₁ (.ok (.ret v)) s') (fun e s' => GoodWG c cl mean args s₁ (.error e) s') s :=
  wpC_call (codeC_mono h fun res s' g => by rcases g.1 with ⟨v, _, _, rfl, _⟩ | ⟨e, _, _, rfl, _⟩ <;> exact g)
theorem call_cellsC {prog : Program} {w : World} {A : Around} {R : Result → Shared → Prop} {s : Shared} {name : Str} {params : Arguments} {body : List Stmt} {scope : Scope}
    {pm cd doc : Value} {a : Addr} {o : Obj} {args : List Value} {binds : List (Str × Value)}
    (hroom : A.depth < recursionLimit) (ho : s.heap.get? a = some o) (hdata : o.data = .func (Calls.docDef name params body scope pm cd doc)) (hlim : s.heap.NoLimit) (hcd : s.heap.CodeRec cd name)
    (hbind : bindArgs (Calls.docDef name params body scope pm cd doc) ⟨args, []⟩ = pure binds)
    (hkind : ∀ x ∈ binds, scope.names.lookup x.1 = some .local ∨ (scope.names.lookup x.1 = some .cell ∧ ((cellsFrom (s.heap.objs.size + 1) scope.names []).lookup x.1).isSome = true))
    (hnd : ((cellsFrom 0 scope.names []).map (·.1)).Nodup)
    (h : ∀ h₁ tk cells, Fr s.heap s.heap.objs.size h₁ (bindL (envOfC name scope s.heap.objs.size a cd).kindOf binds fun _ => none) → News s.heap s.heap.objs.size h₁ cells →
      CellsAre (bindC (envOfC name scope s.heap.objs.size a cd).kindOf binds fun _ => none) (cellsFrom (s.heap.objs.size + 1) scope.names []) cells →
      wpC (model prog w) (A.deeper (envOfC name scope s.heap.objs.size a cd)) (execs body (envOfC name scope s.heap.objs.size a cd))
        (fun f s' => R (.ok (.ret (match f with | .ret v => v | _ => .none))) s')
        (fun e s' => wpAny (model prog w) (A.deeper (envOfC name scope s.heap.objs.size a cd)) (leaving (envOfC name scope s.heap.objs.size a cd) e)
          (fun _ s'' => R (.error e) s'') (fun e' s'' => R (.error e') s'') s')
        { s with heap := h₁, toks := tk })
    (hco : scope.isCoroutine = false := by rfl) (hgen : scope.isGenerator = false := by rfl) (hk : scope.kind = .function := by rfl) :
    codeC (model prog w) A (.call (.ref a) ⟨args, []⟩) R s := by
  refine codeC_call_function hroom ho hdata hco hgen rfl hcd ((BindsTo.of_eq hbind) _ _ _ _ ?_)
  refine wpAny_newFunctionEnv_cells hk hkind fun env' he s' x => ?_
  subst he
  refine ⟨hlim.keeps x.toInCall.keep, codeC_func ?_⟩
  obtain ⟨h₁, tk, rfl, _⟩ := x.done
  have hk₁ := x.toInCall.keep
  obtain ⟨cells, NC, Y⟩ := Cl.news (h₀ := s.heap) (Nat.le_refl _) fun n c hm => ⟨x.cell n c (lookup_of_mem_nodup (cellsFrom_names scope.names 0 (s.heap.objs.size + 1) [] [] rfl ▸ hnd) hm), x.above n c hm⟩
  exact h h₁ tk cells ⟨x.toInCall.ns, fun b o e => hk₁ b o e, Nat.le_refl _⟩ NC Y
theorem end_true {tabs : List (Addr × Addr)} {cw : ClaimW} {cl : Str → Option Addr} {mean : ExcName → Option Value} {args : List WData} {s₁ s' : Shared} (hT : TabsAt tabs s₁.heap) (hr : ∀ a x, cw.raises a x = false) (hp : cw.post args (.bool true) args = true)
    (keep : ∀ b o, (ghostOf s₁.heap tabs).get? b = some o → s'.heap.get? b = some o) (hgr : GrownAll tabs s'.heap) (hos : s'.os = s₁.os) (hg : AllBare s'.gens) : GoodWG cw cl mean args s₁ (.ok (.ret (.bool true))) s' := by
  have keep' : ∀ b o, b ∉ tabs.map (·.2) → s₁.heap.get? b = some o → s'.heap.get? b = some o := fun b o hb e => keep b o (ghost_ne e hb)
  have grown : ∀ b o, b ∈ tabs.map (·.2) → s₁.heap.get? b = some o → isCodeTable s₁.heap b ∧ o = tabObj #[] ∧ ∃ ps, s'.heap.get? b = some (tabObj ps) := fun b o hb e => by
    obtain ⟨q, hq, rfl⟩ := List.mem_map.mp hb
    have e2 := (hT q hq).2
    rw [e] at e2
    exact ⟨((hT q hq).1.tab (hT q hq).2).isCodeTable, Option.some.inj e2, hgr.get q hq⟩
  refine ⟨.inl ⟨.bool true, .bool true, [], rfl, hr _, .bool _, hp, fun _ => ⟨List.nodup_nil, fun a ha => nomatch ha⟩⟩, ⟨fun b o e => ?_, fun b o e => ?_⟩, hos, hg⟩
  · by_cases hb : b ∈ tabs.map (·.2)
    · obtain ⟨ht, rfl, ps, hP⟩ := grown b o hb e
      exact .inr (.inl ⟨ht, rfl, #[], ps, rfl, by rw [Array.empty_append]; exact hP⟩)
    · exact .inl (keep' b o hb e)
  · by_cases hb : b ∈ tabs.map (·.2)
    · obtain ⟨_, _, ps, hP⟩ := grown b o hb e
      exact ⟨_, hP⟩
    · exact ⟨o, keep' b o hb e⟩
end
example : True := by
  k_with "call ref" => refine Held.mk ?_
  k_with "storeName" => (k_here; k_dflt (refine' storeC_led ?wkF ?wkN ?wkc ?wkm ?wkd ?_; (case wkF => k_asm); (case wkN => k_asm); (case wkc => exact rfl); (case wkm => k_mem); (case wkd => first | assumption | exact rfl)); intro _ _ _ _ _ _ _ _ _)
  k_with "eval ListComp" => (k_here; k_dflt (refine LCg.ListComp_U (F₀ := by k_asm) (by with_unfolding_all rfl) (by decide) (by rfl) (by decide) (by rfl) ?_))
  k_with "CompSrc" => refine Held.mk ?_
  k_with "CompSrcT" => refine Held.mk ?_
  k_with "call builtin:str.join" => refine Held.mk ?_
  k_with "call builtin:str.index" => refine Held.mk ?_
  k_with "call builtin:str.encode" => refine Held.mk ?_
  k_with "call type:range" => (k_here; with_unfolding_all refine' range1_rows ?wkkF ?wkkN ?_; (case wkkF => k_asm); (case wkkN => k_asm); intro _ _ _ _ _ _ _ _ _)
  k_with "getMethod str" => (k_here; (with_reducible show wpAny _ _ (getMethod (Value.str _ _) (PySem.Str.ofString "encode") _) _ _ _); refine encM ?_)
  k_with "subscriptTail" => (k_here; (with_reducible show wpAny _ _ (subscriptTail _ _ (Value.bytes _ _) (Value.ref _)) _ _ _); refine Held.mk ?_)
  k_with "call builtin:sorted" => refine Held.mk ?_
  k_with "compareOp NotEq ref ref" => refine Held.mk ?_
  k_with "compareOp Eq ref ref" => refine Held.mk ?_
  trivial
theorem GTab.some {P : Addr} {pos : Pos} {led : List (Addr × Obj)} (ht : GTab P pos led) : ∃ ps, (P, tabObj ps) ∈ led := by
  rcases ht with h | ⟨c, h⟩
  · exact ⟨_, h⟩
  · exact ⟨_, h⟩
theorem Lam.some {qual : Str} {pos : Pos} {bad : List Addr} {led : List (Addr × Obj)} {P : Addr} (h : Lam P qual pos bad led) : ∃ ps, (P, tabObj ps) ∈ led := by
  rcases h with h | ⟨_, _, _, _, h, _⟩
  · exact ⟨_, h⟩
  · exact ⟨_, h⟩
theorem strs_carried : ∀ {ss : List Str} {vs : List Value}, CarriedAll vs (ss.map PyData.str) → StrsAre vs ss
  | [], _, h => by cases h; exact .nil
  | x :: r, _, h => by
    cases h with
    | cons h1 h2 =>
      cases h1
      exact .cons _ _ (strs_carried h2)
theorem cell_ne {h₀ h : Heap} {L b c : Addr} {o o' : Obj} {v : Option Value} {led : List (Addr × Obj)} (N : News h₀ L h led) (h1 : (c, o) ∈ led) (hd : o.data = .cell v) (h2 : (b, o') ∈ led) (hn : ∀ v, o'.data ≠ .cell v) : b ≠ c := fun e => by
  subst e
  rw [news_same N h1 h2] at hd
  exact hn _ hd
theorem join_let (l : List Int) : Txt.join (Str.ofString "") (l.map letS) = wordS l := join_one (fun k : Int => (96 + k).toNat) l
theorem word_index {x : Str} {l : List Int} {a : Int} (hwn : x.cps.toList = l.map Int.toNat) (hwp : ∀ y ∈ l, 0 ≤ y) (h : a ∈ l) (ha : 0 ≤ a) : ∃ r, Builtin.Str.occurrences x ⟨#[a.toNat]⟩ 0 x.length 1 = l.idxOf a :: r := by
  obtain ⟨r, e⟩ := index_one (x := x) (c := a.toNat) (by rw [hwn]; exact List.mem_map_of_mem h)
  rw [hwn, idx_toNat _ _ hwp ha] at e
  exact ⟨r, e⟩
theorem fn237 (P : Params) : ∃ o fd, (Mine.hd.heap_39 P).lookup 237 = some o ∧ o.data = .func fd := by
  have h : (match (Mine.hd.heap_39 P).lookup 237 with | some o => (match o.data with | .func _ => true | _ => false) | none => false) = true := by kernel_rfl
  split at h
  · rename_i o ho
    split at h
    · rename_i fd hfd
      exact ⟨o, fd, ho, hfd⟩
    · cases h
  · cases h
theorem let_sum (l : List Int) : ((l.map letS).map (·.length)).sum = l.length := lenS_let l
set_option maxHeartbeats 8000000 in
theorem lawStart : PySem.Challenge.rw_xp0032_01.Holds := Mine.hdC (by
  k_fill
  intro w s₀ s₁ mg mb G Y fa o pm cd doc dV kV ho hd hcd hD hmg hg args vals as hpre hlay hrd hwl hlo
  have KX := km_in_of Y
  km_tabs Y
  have X := (Ground.X G).1
  have V := (Ground.X G).2
  refine Ground.open G ?_
  intro T B D TE TW
  try (refine guard_noD D (by decide +kernel) ?_; clear D)
  have hT9 : TabsAt ([(179, 175), (186, 182), (257, 253)] : List (Addr × Addr)) _ := List.forall_mem_cons.mpr ⟨⟨codeHd_of_K (c := 179) (P := 175) KX (by kernel_rfl), hT8 175 (by k_mem)⟩, List.forall_mem_cons.mpr ⟨⟨codeHd_of_K (c := 186) (P := 182) KX (by kernel_rfl), hT8 182 (by k_mem)⟩, List.forall_mem_cons.mpr ⟨⟨codeHd_of_K (c := 257) (P := 253) KX (by kernel_rfl), hT8 253 (by k_mem)⟩, fun _ h => nomatch h⟩⟩⟩
  clear hmg
  wrow_args hpre hlay hrd hwl hlo
  refine enter_callC ?_
  w_top on
  have he := Dflts.none hD rfl
  subst he
  have he := Dflts.noKw hD
  subst he
  refine call_cellsC (by decide) ho (fd_plain hd) (Top.nolimit T) hcd rfl (kinds_of (by kinds_ok)) (by decide) fun h₁ tk₁ cells F N0 X0 => ?_
  cells_open X0
  clear hd
  kn_ghosts F T
  k_drop
  rename IntsAre _ _ => hil
  rename_i ss i1 i2 i3 i4 i5 i6 i7 ls wl i8 i9 i10 i11 i12 i13 i14 i15 co hcell _ _ _ _ _ _ _ _
  rename News _ _ _ _ => N
  rename Fr _ _ _ _ => F
  rename Frag.In _ _ => X
  rename Top _ _ _ _ _ _ => T1
  rename Below _ _ _ _ => B1
  rename CodeHd _ _ _ => CH
  rename Heap.IsList (ghostOf _ _) _ _ => hls
  have hend : ∀ s' : Shared, (∀ b o, (ghostOf s₁.heap ([(179, 175), (186, 182), (257, 253)] : List (Addr × Addr))).get? b = some o → s'.heap.get? b = some o) → GrownAll ([(179, 175), (186, 182), (257, 253)] : List (Addr × Addr)) s'.heap → s'.os = s₁.os → AllBare s'.gens → GoodWG PySem.Challenge.rw_xp0032_01.row.claim (classAt s₀.heap) (ExcName.means s₀.heap) [ofPy (PyData.list (List.map PyData.int ss))] s₁ (.ok (.ret (.bool true))) s' := fun s' h1 h2 h3 h4 => end_true hT9 (fun _ _ => rfl) (by first | exact postW_of (X := true) (by rfl) (by rfl) rfl | kc_post) h1 h2 h3 h4
  have hss : ss.length < 64 := by omega
  rename (_ < _ ∧ _ < _ ∧ _ < _) => l0
  have hcd2 : co.data = .cell none := hcell
  have hbare : AllBare s₁.gens := .of_eq hg
  clear G Y hT8 V T B TE TW hD hcd ho
  generalize hgh : ghostOf s₁.heap ([(179, 175), (186, 182), (257, 253)] : List (Addr × Addr)) = h₀ at *
  have hpr : PrOk PySem.Challenge.rw_xp0032_01.row.prog := ⟨by first | rfl | decide +kernel, by first | rfl | decide +kernel⟩
  obtain ⟨pq, lq, mq, T1⟩ : ∃ (p : Program) (l : List Str) (me : ExcName → Option Value), Top p l me mg mb h₀ := ⟨_, _, _, T1⟩
  generalize (GoodWG PySem.Challenge.rw_xp0032_01.row.claim (classAt s₀.heap) (ExcName.means s₀.heap) [ofPy (PyData.list (List.map PyData.int ss))] s₁) = R at *
  generalize PySem.Challenge.rw_xp0032_01.row.prog = prog at *
  have hcd2 : co.data = .cell none := hcell
  clear hcell X0 hT9 hg
  clear i1 i2 i3 i4 i5 i6 i7 i8 i9 i10 i11 i12 i13 i14 i15
  have ht : LenTab [(s₁.heap.objs.size + 1, co), (175, tabObj #[]), (182, tabObj #[]), (253, tabObj #[])] := .inl (.tail _ (.head _))
  have ht2 : StrTab [(s₁.heap.objs.size + 1, co), (175, tabObj #[]), (182, tabObj #[]), (253, tabObj #[])] := .inl (.tail _ (.tail _ (.head _)))
  refine (let eL : Value → Shared → Prop := _; (?_ : wpC _ _ _ _ eL _))
  refine wpC_execs_cons (wpC_of ?_)
  k_steps
  refine Held.out ?_
  k_dflt (refine' forestC ?k1 ?k2 ?k3 ?k4 ?k5 ?kK hls hil hss ?kd ?ku ?_; (case k1 => k_asm); (case k2 => k_asm); (case k3 => k_asm); (case k4 => k_asm); (case k5 => k_asm); (case kK => first | exact rfl | assumption); (case kd => ktr_room); (case ku => first | ktr_units | (show un + 1 + 150 < cLine; ktr_units) | (show un + 1 + 3 + 150 < cLine; ktr_units)))
  intro h2 tk2 led2 D2 Pi Pa Cl ds hdl hd0 F2 N2 hD2 hPi hPa hCl hk2
  k_steps
  have fc := facts_of (factsB_of hdl)
  have lw := lawB_of hdl
  have hmk := forest_marks ds
  obtain ⟨wpi, npi, hmpi, hipi⟩ := hPi
  obtain ⟨wpa, npa, hmpa, hipa⟩ := hPa
  obtain ⟨wcl, ncl, hmcl, hicl⟩ := hCl
  generalize forestOf ds = st at *
  have ht3 : LenTab led2 := ht.mono fun o h => hk2 _ h
  have ht4 : StrTab led2 := ht2.mono fun o h => hk2 _ h
  have hne : st.pcs ≠ [] := fun e => by
    have := fc.b1
    have e2 : st.b.bs = st.pcs.map (·.2) := rfl
    rw [e2, e] at this
    exact absurd this (by decide)
  have hbl : st.pcs.length ≤ 18 := by
    have := fc.b18
    have e2 : st.b.bs = st.pcs.map (·.2) := rfl
    rw [e2, List.length_map] at this
    exact this
  rename News _ _ _ _ => N3
  have nl : ∀ {b : Addr} {w : List Value} {n : Nat}, (b, listOf w.toArray n) ∈ led2 → b ≠ 175 ∧ b ≠ 182 ∧ b ≠ 253 ∧ b ≠ s₁.heap.objs.size + 1 := fun h => ⟨Ne.symm (ht3.ne N3 h (by intro h; cases h)), Ne.symm (ht4.ne N3 h (by intro h; cases h)), led_ne N3 h (hk2 _ (.tail _ (.tail _ (.tail _ (.head _))))) (by intro h; cases h), cell_ne N3 (hk2 _ (.head _)) hcd2 h (fun v h => by cases h)⟩
  have nPa := nl hmpa
  have nCl := nl hmcl
  have hco2 : (s₁.heap.objs.size + 1, co) ∈ led2 := hk2 _ (.head _)
  have h2532 : ((253 : Addr), tabObj #[]) ∈ led2 := hk2 _ (.tail _ (.tail _ (.tail _ (.head _))))
  refine wpC_execs_cons (wpC_of ?_)
  k_steps
  refine Held.out ?_
  k_dflt (refine' readC hpr ?k1 ?k2 ?k3 ?k4 ?k5 ?kK hbare ht3 ht4 hmpi hipi hmk hne hbl fc.r1 ?hp ?kd ?ku ?_; (case k1 => k_asm); (case k2 => k_asm); (case k3 => k_asm); (case k4 => k_asm); (case k5 => k_asm); (case kK => first | exact rfl | assumption); (case kd => ktr_room); (case ku => first | ktr_units | (show un + 1 + 150 < cLine; ktr_units) | (show un + 1 + 3 + 150 < cLine; ktr_units)))
  case hp =>
    intro k r hr
    have hk := (List.getElem?_eq_some_iff.mp hr).1
    have := fc.rp k hk
    rw [List.getD_eq_getElem?_getD, show (rowsB st.b)[k]? = some r from hr] at this
    exact this
  rw [show wordB (st.pcs.map (·.2)) = st.cls from fc.wd]
  intro s5 led5 t5 F5 N5 G5 ht5 ht25 hk5
  have nc175 : s₁.heap.objs.size + 1 ≠ 175 := Nat.ne_of_gt (Nat.lt_succ_of_lt l0.1)
  have nc182 : s₁.heap.objs.size + 1 ≠ 182 := Nat.ne_of_gt (Nat.lt_succ_of_lt l0.2.1)
  have nc253 : s₁.heap.objs.size + 1 ≠ 253 := Nat.ne_of_gt (Nat.lt_succ_of_lt l0.2.2)
  have hco5 : (s₁.heap.objs.size + 1, co) ∈ led5 := hk5 _ hco2 nc175 nc182
  have hpa5 := hk5 _ hmpa nPa.1 nPa.2.1
  have hcl5 := hk5 _ hmcl nCl.1 nCl.2.1
  have h2535 := hk5 _ h2532 (by decide) (by decide)
  clear nl hk2 hk5 ht ht2 hD2 hmpi hipi
  k_steps
  rename_i h6 o6 led6 F6 N6 hm6 hd6 hk6 _
  refine wpC_execs_cons (wpC_of ?_)
  k_steps
  have hpa6 := hk6 _ hpa5 nPa.2.2.2
  have hcl6 := hk6 _ hcl5 nCl.2.2.2
  have h2536 := hk6 _ h2535 (Ne.symm nc253)
  have ht6 : LenTab led6 := ht5.keep (Ne.symm nc175) hk6
  have ht26 : StrTab led6 := ht25.keep (Ne.symm nc182) hk6
  have hcln : wcl.length = st.cls.length := hicl.length
  have fn9 := fc.n9
  have fpl := fc.pl
  dsimp only [FSt.b] at fn9 fpl
  refine Held.out ?_
  refine LCg.CompSrc.ledger rfl F6 N6 hcl6 (by rw [sizeLine_eq, List.size_toArray]; omega) ?_
  intro g7
  refine kct_list (fun k => (⟨#[(96 + k).toNat]⟩ : Str)) hicl ?_ ?_
  · intro k tk2 I2 oI2 C2 oC2 D2 m3 ys h5 tk5 E5 hk hC2 hx F7 N7 off ne hMark'
    have hkr := fc.cr k hk
    dsimp only [FSt.b] at hkr
    k_steps
    exact LCg.CompEnd.intro (by assumption) (by assumption) led6 (fun _ h => h) off (.inr ⟨_, hcl6, rfl, _, rfl⟩) ⟨rfl, _, rfl⟩
  unfold KPfDone
  intro ys7 hys7 hyl7 D7 h7 tk7 F7 N7 off7
  have hn7 := off1_of off7
  have hys7' : StrsAre ys7 (st.cls.map letS) := strs_carried (by rw [List.map_map]; exact hys7)
  clear hys7
  k_steps
  refine Held.out ?_
  k_here
  obtain ⟨l7, rfl, hl7⟩ := strsAre_values hys7'
  refine SC.join (News.isList (by k_asm) (.head _)) hl7 (joinOk_of ?_) ?_
  · rw [let_sum, List.length_map]
    rw [show (Str.ofString "").length = 0 by decide +kernel]
    omega
  intro t8 k8
  rw [join_let]
  k_steps
  · exfalso
    rename ((_ != _) = true) => hne9
    rw [bne_self_eq_false] at hne9
    cases hne9
  have hwl8 : (wordS st.cls).length = st.cls.length := by rw [wordS_nat, natS_len, List.length_map]
  have hm8 : ((s₁.heap.objs.size + 1, o6) : Addr × Obj) ∈ (D7, LCg.lst (strValues l7)) :: led6 := .tail _ hm6
  have hpa8 : ((Pa, listOf wpa.toArray npa) : Addr × Obj) ∈ (D7, LCg.lst (strValues l7)) :: led6 := .tail _ hpa6
  have hcl8 : ((Cl, listOf wcl.toArray ncl) : Addr × Obj) ∈ (D7, LCg.lst (strValues l7)) :: led6 := .tail _ hcl6
  have h2538 : (((253 : Addr), tabObj #[]) : Addr × Obj) ∈ (D7, LCg.lst (strValues l7)) :: led6 := .tail _ h2536
  have ht8 : LenTab ((D7, LCg.lst (strValues l7)) :: led6) := ht6.mono fun o h => .tail _ h
  have ht28 : StrTab ((D7, LCg.lst (strValues l7)) :: led6) := ht26.mono fun o h => .tail _ h
  generalize (D7, LCg.lst (strValues l7)) :: led6 = led8 at *
  have A5 : Goes s₁ s5 := (Goes.same _ _).trans G5
  clear hys7' hl7 off7 hyl7 hm6 hpa6 hcl6 h2536 ht6 ht26
  refine wpC_execs_cons (wpC_of ?_)
  k_steps
  refine wpC_execs_cons (wpC_of ?_)
  k_steps
  rename IsRange _ _ _ _ _ _ _ _ => hrg9
  rename Fr _ _ _ _ => F9
  rename News _ _ _ _ => N9
  refine Held.out ?_
  rw [hwl8] at hrg9
  refine LCg.CompSrc.range rfl F9 N9 hrg9 (small_one (by omega) (by omega) (by omega) (by omega)) (n := st.cls.length) (by rw [rangeSize_one]; split <;> omega) (by rw [sizeLine_eq]; omega) ?_
  intro g9
  have hwn : (wordS st.cls).cps.toList = (wordI st.b).map Int.toNat := by rw [wordS_nat]; rfl
  have hwp : ∀ x ∈ wordI st.b, 0 ≤ x := fun x hx => by
    obtain ⟨y, hy, rfl⟩ := List.mem_map.mp hx
    have := fc.cr y hy
    omega
  have hwil : (wordI st.b).length = st.cls.length := List.length_map ..
  refine kct_range (fun k => (⟨#[(97 + (((wordI st.b).idxOf (97 + k) : Nat) : Int)).toNat]⟩ : Str)) ?_ ?_
  · intro k tk2 I2 oI2 C2 oC2 D2 m3 ys h5 tk5 E5 hk0 hk1 hC2 hx F7 N7 off ne hMark'
    have hk97 : (97 + k) ∈ wordI st.b := by
      have := fc.wm k.toNat (by dsimp only [FSt.b]; omega)
      rw [show ((k.toNat : Nat) : Int) = k by omega] at this
      exact this
    have hix : (wordI st.b).idxOf (97 + k) < st.cls.length := by rw [← hwil]; exact List.idxOf_lt_length_of_mem hk97
    obtain ⟨r9, hr9⟩ := word_index hwn hwp hk97 (by omega)
    clear hk97
    generalize hii : (wordI st.b).idxOf (97 + k) = ii at *
    k_steps
    refine Held.out ?_
    k_here
    refine SC.index hr9 ?_
    clear hr9
    k_steps
    exact LCg.CompEnd.intro (by assumption) (by assumption) led8 (fun _ h => h) off trivial ⟨rfl, _, rfl⟩
  unfold KPfDone
  intro ys10 hys10 hyl10 D10 h10 tk10 F10 N10 off10
  have hn10 := off1_of off10
  have epl : (rangeKs 0 st.cls.length).map (fun k => (97 + (((wordI st.b).idxOf (97 + k) : Nat) : Int))) = placesI st.b := by
    unfold placesI rangeKs
    rw [List.map_map]
    refine List.map_congr_left fun k _ => ?_
    show (97 : Int) + (((wordI st.b).idxOf (97 + (0 + (k : Int))) : Nat) : Int) = 97 + (((wordI st.b).idxOf (97 + (k : Int)) : Nat) : Int)
    rw [Int.zero_add]
  have hys10' : StrsAre ys10 ((placesI st.b).map fun x => (⟨#[x.toNat]⟩ : Str)) := by
    rw [← epl, List.map_map]
    exact strs_carried (by rw [List.map_map]; exact hys10)
  clear hys10
  have hpil : (placesI st.b).length = st.cls.length := by unfold placesI; rw [List.length_map, List.length_range]; rfl
  k_steps
  refine Held.out ?_
  k_here
  obtain ⟨l10, rfl, hl10⟩ := strsAre_values hys10'
  refine SC.join (News.isList (by k_asm) (.head _)) hl10 (joinOk_of ?_) ?_
  · have e1 : (((placesI st.b).map fun x => (⟨#[x.toNat]⟩ : Str)).map (·.length)).sum = (placesI st.b).length := by
      rw [List.map_map]
      generalize placesI st.b = l
      induction l with
      | nil => rfl
      | cons a r ih =>
        rw [List.map_cons, List.sum_cons, ih, List.length_cons]
        show 1 + r.length = _
        omega
    rw [e1, List.length_map, show (Str.ofString "").length = 0 by decide +kernel]
    omega
  intro t11 k11
  rw [join_one Int.toNat (placesI st.b), show (⟨((placesI st.b).map Int.toNat).toArray⟩ : Str) = natS (placesI st.b) from rfl]
  k_steps
  rename Fr _ _ _ _ => F12
  rename News _ _ _ _ => N12
  have hm12 : ((s₁.heap.objs.size + 1, o6) : Addr × Obj) ∈ (D10, LCg.lst (strValues l10)) :: led8 := .tail _ hm8
  have hpa12 : ((Pa, listOf wpa.toArray npa) : Addr × Obj) ∈ (D10, LCg.lst (strValues l10)) :: led8 := .tail _ hpa8
  have hcl12 : ((Cl, listOf wcl.toArray ncl) : Addr × Obj) ∈ (D10, LCg.lst (strValues l10)) :: led8 := .tail _ hcl8
  have h25312 : (((253 : Addr), tabObj #[]) : Addr × Obj) ∈ (D10, LCg.lst (strValues l10)) :: led8 := .tail _ h2538
  have ht12 : LenTab ((D10, LCg.lst (strValues l10)) :: led8) := ht8.mono fun o h => .tail _ h
  have ht212 : StrTab ((D10, LCg.lst (strValues l10)) :: led8) := ht28.mono fun o h => .tail _ h
  generalize (D10, LCg.lst (strValues l10)) :: led8 = led12 at *
  have hpl12 : (natS (placesI st.b)).length = st.cls.length := by rw [natS_len, hpil]
  clear hys10' hl10 off10 hyl10 hm8 hpa8 hcl8 h2538 ht8 ht28 hn10 hn7 epl
  refine wpC_execs_cons (wpC_Assign_Name (wpC_Call_Name rfl ?_))
  k_steps
  obtain ⟨b13, hb13, hch, hnl, hbsz, hbi⟩ := enc_all st.b fc
  obtain ⟨o237, fd237, hl237, hd237⟩ := fn237 w.params
  refine callWithC_fun1 (o := o237) (fd := fd237) ?_
  k_steps
  refine Held.out ?_
  k_here
  refine encodeB hb13 hch hnl ?_
  intro t13 k13
  clear hb13 hch hnl
  k_steps
  · exact X.keeps F12.keep _ _ hl237
  k_dflt (refine' swapC ?k1 ?k2 ?k3 ?k4 ?k5 ?kK ?a1 ?a2 (by rw [hwl8]; exact hbsz) ?kd ?ku ?_; (case k1 => k_asm); (case k2 => k_asm); (case k3 => k_asm); (case k4 => k_asm); (case k5 => k_asm); (case kK => first | exact rfl | assumption); (case kd => ktr_room); (case ku => first | ktr_units | (show un + 1 + 150 < cLine; ktr_units) | (show un + 1 + 3 + 150 < cLine; ktr_units)))
  case a1 => rw [hwl8]; exact fc.n1
  case a2 => rw [hwl8]; omega
  intro h14 tk14 led14 arr t14 D14 F14 N14 hk14
  k_steps
  rename Fr _ _ _ _ => F14
  rename News _ _ _ _ => N14
  rw [hwl8] at D14
  have hbi2 : KBw.bInts arr = (wordI st.b).reverse ++ (placesI st.b).reverse := by
    rw [dn_ints D14 hbsz, hbi, List.take_append_of_le_length (by rw [hwil]; exact Nat.le_refl _), List.take_of_length_le (by rw [hwil]; exact Nat.le_refl _), List.drop_append_of_le_length (by rw [hwil]; exact Nat.le_refl _), List.drop_of_length_le (by rw [hwil]; exact Nat.le_refl _), List.nil_append]
  clear hbi
  rename (KBw.bInts arr = _) => hbi
  have hpa14 := hk14 _ hpa12
  have hcl14 := hk14 _ hcl12
  have h25314 := hk14 _ h25312
  have ht14 : LenTab led14 := ht12.mono fun o h => hk14 _ h
  have ht214 : StrTab led14 := ht212.mono fun o h => hk14 _ h
  replace F14 : Fr h₀ _ _ _ := fr_pin (x := Str.ofString "turned") (v := .bytes arr t14) F14 rfl
  replace F14 : Fr h₀ _ _ _ := fr_pin (x := Str.ofString "size") (v := .int (st.cls.length : Nat) _) F14 (congrArg (fun n : Nat => some (Value.int (n : Int) _)) hwl8)
  replace F14 : Fr h₀ _ _ _ := fr_pin (x := Str.ofString "parents") (v := .ref Pa) F14 rfl
  replace F14 : Fr h₀ _ _ _ := fr_pin (x := Str.ofString "closed") (v := .ref Cl) F14 rfl
  show wpC _ _ _ _ _ _
  refine (?_ : ∀ s14 : Shared, Fr h₀ s₁.heap.objs.size s14.heap _ → News h₀ s₁.heap.objs.size s14.heap led14 → Goes s₁ s14 → wpC _ _ _ _ _ s14) _ F14 N14 (A5.trans (Goes.same _ _))
  clear F14 N14
  intro s14 F14 N14 A14
  refine wpC_execs_cons (wpC_of ?_)
  k_steps
  refine Held.out ?_
  k_here
  have hwil2 : (wordI st.b).length = st.cls.length := List.length_map ..
  have hpil2 : (placesI st.b).length = st.cls.length := by unfold placesI; rw [List.length_map, List.length_range]; rfl
  have hkl : ((wordI st.b).reverse ++ (placesI st.b).reverse).length = 2 * st.cls.length := by rw [List.length_append, List.length_reverse, List.length_reverse, hwil2, hpil2]; omega
  refine KBc.slice_K (s := ⟨_, _, _, _, _⟩) F14 N14 hbi (by constructor) (by constructor) (by omega) ?_
  intro h15 t15 k15 F15 N15 hp15
  have hb15 : KBw.bInts (KBy.picked arr none (some (st.cls.length : Int))) = (wordI st.b).reverse := by
    rw [hp15]
    simp only [Option.elim, clipAt_nat, List.drop_zero, Nat.sub_zero]
    rw [hkl, show min st.cls.length (2 * st.cls.length) = st.cls.length by omega, List.take_append_of_le_length (by rw [List.length_reverse, hwil2]; exact Nat.le_refl _), List.take_of_length_le (by rw [List.length_reverse, hwil2]; exact Nat.le_refl _)]
  clear hp15
  generalize KBy.picked arr none (some (st.cls.length : Int)) = b15 at *
  k_steps
  refine Held.out ?_
  obtain ⟨p175, h175⟩ := ht14.some
  obtain ⟨p182, h182⟩ := ht214.some
  have nP253 : Pa ≠ 253 := led_ne N15 hpa14 h25314 (by intro h; cases h)
  have nC253 : Cl ≠ 253 := led_ne N15 hcl14 h25314 (by intro h; cases h)
  have hb15s : b15.size = st.cls.length := by rw [← KBw.ints_length, hb15, List.length_reverse, hwil2]
  k_dflt (refine' tabC (rest := [(Pa, listOf wpa.toArray npa), (Cl, listOf wcl.toArray ncl), ((175 : Addr), tabObj p175), ((182 : Addr), tabObj p182)]) ?k1 ?k2 ?k3 ?k4 ?k5 ?kK CH (.inl h25314) ?a1 ?a2 ?a3 ?kd ?ku ?_; (case k1 => k_asm); (case k2 => k_asm); (case k3 => k_asm); (case k4 => k_asm); (case k5 => k_asm); (case kK => first | exact rfl | assumption); (case kd => ktr_room); (case ku => first | ktr_units | (show un + 1 + 150 < cLine; ktr_units) | (show un + 1 + 3 + 150 < cLine; ktr_units)))
  case a1 =>
    intro p hp
    rcases List.mem_cons.mp hp with rfl | hp
    · exact hpa14
    rcases List.mem_cons.mp hp with rfl | hp
    · exact hcl14
    rcases List.mem_cons.mp hp with rfl | hp
    · exact h175
    · rw [List.mem_singleton.mp hp]; exact h182
  case a2 =>
    intro p hp
    rcases List.mem_cons.mp hp with rfl | hp
    · exact nP253
    rcases List.mem_cons.mp hp with rfl | hp
    · exact nC253
    rcases List.mem_cons.mp hp with rfl | hp
    · exact (show (175 : Nat) ≠ 253 by decide)
    · rw [List.mem_singleton.mp hp]; exact (show (182 : Nat) ≠ 253 by decide)
  case a3 => omega
  rw [hb15]
  intro h16 tk16 led16 Rl as16 nR16 F16 N16 TS16 _ _
  unfold lawB at lw
  rw [Bool.and_eq_true, decide_eq_true_eq, decide_eq_true_eq] at lw
  obtain ⟨lw1, lw2⟩ := lw
  rw [lw1] at TS16
  have hpa16 := TS16.keep _ (.head _)
  have hcl16 := TS16.keep _ (.tail _ (.head _))
  have h17516 := TS16.keep _ (.tail _ (.tail _ (.head _)))
  have h18216 := TS16.keep _ (.tail _ (.tail _ (.tail _ (.head _))))
  k_steps
  refine Held.out ?_
  k_here
  refine sortA_led F16 N16 hcl16 hicl (by omega) ?_
  intro D17 ws17 c17 h17 F17 N17 l17 hi17
  k_steps
  refine Held.out ?_
  k_dflt (refine' toldC ?k1 ?k2 ?k3 ?k4 ?k5 ?kK (.tail _ hpa16) hipa (.head _) hi17 ?a1 ?a2 ?a3 ?a4 ?kd ?ku ?_; (case k1 => k_asm); (case k2 => k_asm); (case k3 => k_asm); (case k4 => k_asm); (case k5 => k_asm); (case kK => first | exact rfl | assumption); (case kd => ktr_room); (case ku => first | ktr_units | (show un + 1 + 150 < cLine; ktr_units) | (show un + 1 + 3 + 150 < cLine; ktr_units)))
  case a1 => omega
  case a2 => rw [sortA_length]; omega
  case a3 => exact fc.pr
  case a4 =>
    intro n hn
    have := fc.cr n ((sortA_perm _).mem_iff.mp hn)
    exact ⟨by omega, this.2⟩
  intro h18 tk18 led18 D18 as18 c18 F18 N18 hD18 hR18 hk18
  k_steps
  refine Held.out ?_
  k_here
  refine rows_ne N18 (hk18 _ (.tail _ TS16.mem)) (TS16.rows.mono fun a _ o ho => hk18 _ (.tail _ ho)) hD18 hR18 (by first | units_room | decide +kernel | exact Nat.le_of_ble_eq_true rfl) ?_
  k_steps
  refine wpC_execs_cons (wpC_of ?_)
  k_steps
  refine Held.out ?_
  k_here
  refine KBc.slice_K (s := ⟨_, _, _, _, _⟩) F18 N18 hbi (by constructor) (by constructor) (by omega) ?_
  intro h19 t19 k19 F19 N19 hp19
  have hb19 : KBw.bInts (KBy.picked arr (some (st.cls.length : Int)) none) = (placesI st.b).reverse := by
    rw [hp19]
    simp only [Option.elim, clipAt_nat]
    rw [hkl, show min st.cls.length (2 * st.cls.length) = st.cls.length by omega, List.drop_append_of_le_length (by rw [List.length_reverse, hwil2]; exact Nat.le_refl _), List.drop_of_length_le (by rw [List.length_reverse, hwil2]; exact Nat.le_refl _), List.nil_append, List.take_of_length_le (by rw [List.length_reverse, hpil2]; omega)]
  clear hp19
  generalize KBy.picked arr (some (st.cls.length : Int)) none = b19 at *
  k_steps
  refine Held.out ?_
  have hb19s : b19.size = st.cls.length := by rw [← KBw.ints_length, hb19, List.length_reverse, hpil2]
  have hpa19 := hk18 _ (.tail _ hpa16)
  have hcl19 := hk18 _ (.tail _ hcl16)
  have h17519 := hk18 _ (.tail _ h17516)
  have h18219 := hk18 _ (.tail _ h18216)
  have hlam19 : Lam 253 lamQual lamPos (([(Pa, listOf wpa.toArray npa), (Cl, listOf wcl.toArray ncl), ((175 : Addr), tabObj p175), ((182 : Addr), tabObj p182)] : List (Addr × Obj)).map (·.1)) led18 := TS16.lam.mono (fun p hp _ => hk18 _ (.tail _ hp)) TS16.P_not (fun b hb hb' => absurd (List.mem_append_right _ hb) hb')
  k_dflt (refine' tabC (rest := [(Pa, listOf wpa.toArray npa), (Cl, listOf wcl.toArray ncl), ((175 : Addr), tabObj p175), ((182 : Addr), tabObj p182)]) ?k1 ?k2 ?k3 ?k4 ?k5 ?kK CH hlam19 ?a1 ?a2 ?a3 ?kd ?ku ?_; (case k1 => k_asm); (case k2 => k_asm); (case k3 => k_asm); (case k4 => k_asm); (case k5 => k_asm); (case kK => first | exact rfl | assumption); (case kd => ktr_room); (case ku => first | ktr_units | (show un + 1 + 150 < cLine; ktr_units) | (show un + 1 + 3 + 150 < cLine; ktr_units)))
  case a1 =>
    intro p hp
    rcases List.mem_cons.mp hp with rfl | hp
    · exact hpa19
    rcases List.mem_cons.mp hp with rfl | hp
    · exact hcl19
    rcases List.mem_cons.mp hp with rfl | hp
    · exact h17519
    · rw [List.mem_singleton.mp hp]; exact h18219
  case a2 =>
    intro p hp
    rcases List.mem_cons.mp hp with rfl | hp
    · exact nP253
    rcases List.mem_cons.mp hp with rfl | hp
    · exact nC253
    rcases List.mem_cons.mp hp with rfl | hp
    · exact (show (175 : Nat) ≠ 253 by decide)
    · rw [List.mem_singleton.mp hp]; exact (show (182 : Nat) ≠ 253 by decide)
  case a3 => omega
  rw [hb19, lw2]
  intro h20 tk20 led20 Rl20 as20 nR20 F20 N20 TS20 _ _
  have hpa20 := TS20.keep _ (.head _)
  have hcl20 := TS20.keep _ (.tail _ (.head _))
  have h17520 := TS20.keep _ (.tail _ (.tail _ (.head _)))
  have h18220 := TS20.keep _ (.tail _ (.tail _ (.tail _ (.head _))))
  obtain ⟨p253, h25320⟩ := TS20.lam.some
  k_steps
  refine Held.out ?_
  k_dflt (refine' toldC ?k1 ?k2 ?k3 ?k4 ?k5 ?kK hpa20 hipa hcl20 hicl ?a1 ?a2 ?a3 ?a4 ?kd ?ku ?_; (case k1 => k_asm); (case k2 => k_asm); (case k3 => k_asm); (case k4 => k_asm); (case k5 => k_asm); (case kK => first | exact rfl | assumption); (case kd => ktr_room); (case ku => first | ktr_units | (show un + 1 + 150 < cLine; ktr_units) | (show un + 1 + 3 + 150 < cLine; ktr_units)))
  case a1 => omega
  case a2 => omega
  case a3 => exact fc.pr
  case a4 =>
    intro n hn
    have := fc.cr n hn
    exact ⟨by omega, this.2⟩
  intro h21 tk21 led21 D21 as21 c21 F21 N21 hD21 hR21 hk21
  k_steps
  refine Held.out ?_
  k_here
  refine rows_eq N21 (hk21 _ TS20.mem) (TS20.rows.mono fun a _ o ho => hk21 _ ho) hD21 hR21 (by first | units_room | decide +kernel | exact Nat.le_of_ble_eq_true rfl) ?_
  k_steps
  exact hend _ F21.keep ⟨⟨_, (N21 _ (hk21 _ h17520)).1⟩, ⟨_, (N21 _ (hk21 _ h18220)).1⟩, ⟨_, (N21 _ (hk21 _ h25320)).1⟩, trivial⟩ A14.2 (A14.1 hbare))
end XLaw
end Mine
theorem PySem.Challenge.cw_xp0032_01_holds : PySem.Challenge.rw_xp0032_01.Holds := by
  exact Mine.lawStart
