import PyProof.Rows.All
import Wide.All
import OpenK.AllK
import Wide.FinOn
import PySem.Challenge.RW_dm0052_08
set_option Elab.async false
section
open PySem PySem.W
set_option maxRecDepth 100000
set_option maxHeartbeats 4000000
namespace Mine
noncomputable def anyQ {α : Type} (as : Array α) (p : α → Bool) (start : Nat) (stop : Nat) : Bool :=
  @Bool.rec (fun _ => Bool) (Array.any as p start stop) (R.anyR as.toList p) (Nat.beq start 0 && Nat.beq stop (as.toList.length))
theorem anyQ_eq : @Array.any.{0} = @anyQ := by
  funext α as p start stop
  unfold anyQ
  cases h : (Nat.beq start 0 && Nat.beq stop (as.toList.length)) with
  | false => rfl
  | true =>
    rw [Bool.and_eq_true] at h
    have h1 := Nat.eq_of_beq_eq_true h.1
    have h2 := Nat.eq_of_beq_eq_true h.2
    subst h1
    show _ = R.anyR as.toList p
    rw [← R.anyR_eq, h2]
    simp [Array.any_toList]
noncomputable def tabOf (f : Builtin) (id : String) : Option Builtin :=
  @Decidable.rec (id = "type.__new__") (fun _ => Option Builtin) (fun _ => PySem.W.Fast.tw14364793385576792824 id) (fun _ => some f) (S.strDecS id "type.__new__")
theorem tab_new : PySem.W.Fast.tw14364793385576792824 "type.__new__" = some PySem.W.Fast.tw4202317264376624991 := by kernel_rfl
theorem tabOf_eq : PySem.treeTable = tabOf PySem.W.Fast.tw4202317264376624991 := by
  rw [PySem.W.Fast.te14364793385576792824]
  funext id
  unfold tabOf
  cases S.strDecS id "type.__new__" with
  | isFalse h => rfl
  | isTrue h => subst h; exact tab_new
end Mine

end
section
open PySem PySem.W PyProof.Rows
set_option Elab.async false
set_option linter.unusedVariables false
set_option maxRecDepth 100000
set_option maxHeartbeats 8000000
namespace Mine
noncomputable def pwBody : List Stmt := PySem.Challenge.pw_dm0052_08.main.body
noncomputable def stN (l : List Stmt) (i : Nat) : Stmt := l.getD i (.Pass ⟨0, 0, 0, 0⟩)
noncomputable def bodyN : Stmt → List Stmt
  | .FunctionDef _ _ b _ _ _ _ _ _ _ => b
  | .ClassDef _ _ _ b _ _ _ _ _ _ _ => b
  | _ => []
noncomputable def argsN : Stmt → Arguments
  | .FunctionDef _ a _ _ _ _ _ _ _ _ => a
  | _ => default
noncomputable def scopeN : Stmt → Scope
  | .FunctionDef _ _ _ _ _ _ s _ _ _ => s
  | _ => default
noncomputable def docN : List Stmt → Str
  | .Expr (.Constant (.str s) _ _) _ :: _ => s
  | _ => Str.empty
theorem touch : (fun (_ : Program) => true) PySem.Challenge.pw_dm0052_08 = true := by k_qdec
noncomputable def twBody : List Stmt := PySem.W.Fast.tw10720726730118203017.main.body
noncomputable def o3 (P : Params) : Obj := ⟨(.type "dict"), none, (.dict (List.toArray [⟨PyData.keyHash P (Str.ofString "__name__"), (.str (Str.ofString "__name__") 165), (.str (Str.ofString "law_dm0052_08") 582)⟩, ⟨PyData.keyHash P (Str.ofString "__doc__"), (.str (Str.ofString "__doc__") 166), .none⟩, ⟨PyData.keyHash P (Str.ofString "__package__"), (.str (Str.ofString "__package__") 167), .none⟩, ⟨PyData.keyHash P (Str.ofString "__loader__"), (.str (Str.ofString "__loader__") 168), (.builtin "__main__.__loader__#opaque")⟩, ⟨PyData.keyHash P (Str.ofString "__spec__"), (.str (Str.ofString "__spec__") 169), .none⟩, ⟨PyData.keyHash P (Str.ofString "__annotations__"), (.str (Str.ofString "__annotations__") 170), (.ref 6)⟩, ⟨PyData.keyHash P (Str.ofString "__builtins__"), (.str (Str.ofString "__builtins__") 171), (.ref 4)⟩, ⟨PyData.keyHash P (Str.ofString "__file__"), (.str (Str.ofString "__file__") 173), (.str (Str.ofString "/claim/cut.py") 172)⟩, ⟨PyData.keyHash P (Str.ofString "__cached__"), (.str (Str.ofString "__cached__") 174), .none⟩, ⟨PyData.keyHash P (Str.ofString "_wall"), (.str (Str.ofString "_wall") 193), (.ref 21)⟩, ⟨PyData.keyHash P (Str.ofString "_tuplegetter"), (.str (Str.ofString "_tuplegetter") 252), (.ref 60)⟩, ⟨PyData.keyHash P (Str.ofString "Match"), (.str (Str.ofString "Match") 380), (.ref 135)⟩, ⟨PyData.keyHash P (Str.ofString "_calculate_ratio"), (.str (Str.ofString "_calculate_ratio") 388), (.ref 145)⟩, ⟨PyData.keyHash P (Str.ofString "SequenceMatcher"), (.str (Str.ofString "SequenceMatcher") 581), (.ref 242)⟩, ⟨PyData.keyHash P (Str.ofString "_law_lists"), (.str (Str.ofString "_law_lists") 592), (.ref 253)⟩, ⟨PyData.keyHash P (Str.ofString "_law_gaps"), (.str (Str.ofString "_law_gaps") 607), (.ref 260)⟩, ⟨PyData.keyHash P (Str.ofString "_law_differ"), (.str (Str.ofString "_law_differ") 617), (.ref 267)⟩, ⟨PyData.keyHash P (Str.ofString "_law_found"), (.str (Str.ofString "_law_found") 623), (.ref 272)⟩, ⟨PyData.keyHash P (Str.ofString "_law_common"), (.str (Str.ofString "_law_common") 633), (.ref 279)⟩, ⟨PyData.keyHash P (Str.ofString "law"), (.str (Str.ofString "law") 639), (.ref 284)⟩]) 20), List.toArray []⟩
noncomputable def o11 (P : Params) : Obj := ⟨(.type "tuple"), none, (.seq (List.toArray []) 0), List.toArray []⟩
noncomputable def o12 (P : Params) : Obj := ⟨.none, none, (.fields (List.toArray [(.int 1 0), (.int 0 0), (.ref 20), (.int 5 0), (.int 0 0), (.ref 27), (.int 23 0), (.int 0 0), (.ref 71), (.int 66 0), (.int 0 0), (.ref 144), (.int 70 0), (.int 0 0), (.ref 151), (.int 439 0), (.int 0 0), (.ref 252), (.int 444 0), (.int 0 0), (.ref 259), (.int 457 0), (.int 0 0), (.ref 266), (.int 459 0), (.int 0 0), (.ref 271), (.int 469 0), (.int 0 0), (.ref 278), (.int 475 0), (.int 0 0), (.ref 283)])), List.toArray []⟩
noncomputable def o13 (P : Params) : Obj := ⟨(.type "code"), none, (.fields (List.toArray [(.str (Str.ofString "<module>") 182), (.str (Str.ofString "<module>") 183), (.str (Str.ofString "/claim/cut.py") 184), (.int 1 0), (.int 0 0), (.int 0 0), (.int 0 0), (.int 0 0), (.ref 11), (.bool false), (.int 181 0), (.ref 12), .none, .none, .none, .none, (.int 185 0), (.int 1 0), (.str (Str.ofString "/claim/cut.py") 186)])), List.toArray []⟩
noncomputable def o14 (P : Params) : Obj := ⟨(.type "frame"), none, .plain, List.toArray [(some (.ref 13)), (some (.ref 3)), (some (.ref 3)), none, (some (.str (Str.ofString "__main__") 164)), none, (some (.ref 0))]⟩
noncomputable def o15 (P : Params) : Obj := ⟨(.type "tuple"), none, (.seq (List.toArray []) 0), List.toArray []⟩
noncomputable def o16 (P : Params) : Obj := ⟨.none, none, (.fields (List.toArray [])), List.toArray []⟩
noncomputable def o17 (P : Params) : Obj := ⟨(.type "tuple"), none, (.seq (List.toArray [(.str (Str.ofString "k") 190)]) 0), List.toArray []⟩
noncomputable def o18 (P : Params) : Obj := ⟨(.type "tuple"), none, (.seq (List.toArray []) 0), List.toArray []⟩
noncomputable def o19B (B : List Stmt) (P : Params) : Obj := ⟨.none, none, (.func { name := (Str.ofString "_wall"), qualname := (Str.ofString "_wall"), params := argsN (stN B 0), body := .stmts (bodyN (stN B 0)), scope := scopeN (stN B 0), globals := 0, closure := [], defaults := .none, kwdefaults := .none, doc := .none, pyModule := .none, annotations := none, code := .none, closureTuple := .none, builtins := 0 }), List.toArray []⟩
noncomputable def o19 (P : Params) : Obj := o19B pwBody P
noncomputable def o20 (P : Params) : Obj := ⟨(.type "code"), none, (.fields (List.toArray [(.str (Str.ofString "_wall") 187), (.str (Str.ofString "_wall") 188), (.str (Str.ofString "/claim/cut.py") 189), (.int 1 0), (.int 1 0), (.int 0 0), (.int 0 0), (.int 3 0), (.ref 15), (.bool true), (.int 181 0), (.ref 16), .none, (.ref 17), (.ref 18), (.ref 19), (.int 191 0), (.int 1 0), (.str (Str.ofString "/claim/cut.py") 192)])), List.toArray []⟩
noncomputable def fd21B (B : List Stmt) : FuncData := { name := (Str.ofString "_wall"), qualname := (Str.ofString "_wall"), params := argsN (stN B 0), body := .stmts (bodyN (stN B 0)), scope := scopeN (stN B 0), globals := 3, closure := [], defaults := .none, kwdefaults := .none, doc := .none, pyModule := (.str (Str.ofString "__main__") 164), annotations := none, code := (.ref 20), closureTuple := .none, builtins := 0 }
noncomputable def fd21 : FuncData := fd21B pwBody
noncomputable def at_wall : Addr := 21
noncomputable def fdOf_wall : FuncData := fd21
noncomputable def o21B (B : List Stmt) (P : Params) : Obj := ⟨(.type "function"), none, (.func (fd21B B)), List.toArray []⟩
noncomputable def o21 (P : Params) : Obj := o21B pwBody P
noncomputable def obOf_wall (P : Params) : Obj := o21 P
noncomputable def o22 (P : Params) : Obj := ⟨(.type "tuple"), none, (.seq (List.toArray []) 0), List.toArray []⟩
noncomputable def o23 (P : Params) : Obj := ⟨(.type "builtin_function_or_method"), none, (.fields (List.toArray [(.builtin "type.__prepare__"), (.type "type")])), List.toArray []⟩
noncomputable def o24 (P : Params) : Obj := ⟨(.type "dict"), none, (.dict (List.toArray [⟨PyData.keyHash P (Str.ofString "__module__"), (.str (Str.ofString "__module__") 203), (.str (Str.ofString "cpy313.difflib") 194)⟩, ⟨PyData.keyHash P (Str.ofString "__qualname__"), (.str (Str.ofString "__qualname__") 205), (.str (Str.ofString "_tuplegetter") 204)⟩, ⟨PyData.keyHash P (Str.ofString "__firstlineno__"), (.str (Str.ofString "__firstlineno__") 207), (.int 5 206)⟩, ⟨PyData.keyHash P (Str.ofString "__init__"), (.str (Str.ofString "__init__") 216), (.ref 35)⟩, ⟨PyData.keyHash P (Str.ofString "__get__"), (.str (Str.ofString "__get__") 225), (.ref 43)⟩, ⟨PyData.keyHash P (Str.ofString "__set__"), (.str (Str.ofString "__set__") 234), (.ref 50)⟩, ⟨PyData.keyHash P (Str.ofString "__delete__"), (.str (Str.ofString "__delete__") 242), (.ref 57)⟩, ⟨PyData.keyHash P (Str.ofString "__static_attributes__"), (.str (Str.ofString "__static_attributes__") 245), (.ref 58)⟩]) 8), List.toArray []⟩
noncomputable def o25 (P : Params) : Obj := ⟨(.type "tuple"), none, (.seq (List.toArray []) 0), List.toArray []⟩
noncomputable def o26 (P : Params) : Obj := ⟨.none, none, (.fields (List.toArray [(.int 7 0), (.int 4 0), (.ref 34), (.int 11 0), (.int 4 0), (.ref 42), (.int 18 0), (.int 4 0), (.ref 49), (.int 21 0), (.int 4 0), (.ref 56)])), List.toArray []⟩
noncomputable def o27 (P : Params) : Obj := ⟨(.type "code"), none, (.fields (List.toArray [(.str (Str.ofString "_tuplegetter") 198), (.str (Str.ofString "_tuplegetter") 199), (.str (Str.ofString "/claim/cut.py") 200), (.int 5 0), (.int 0 0), (.int 0 0), (.int 0 0), (.int 0 0), (.ref 25), (.bool false), (.int 181 0), (.ref 26), .none, .none, .none, .none, (.int 201 0), (.int 5 0), (.str (Str.ofString "/claim/cut.py") 202)])), List.toArray []⟩
noncomputable def o28 (P : Params) : Obj := ⟨(.type "frame"), none, .plain, List.toArray [(some (.ref 27)), (some (.ref 3)), (some (.ref 24)), none, (some (.str (Str.ofString "cpy313.difflib") 194)), none, (some (.ref 0))]⟩
noncomputable def o29 (P : Params) : Obj := ⟨(.type "tuple"), none, (.seq (List.toArray []) 0), List.toArray []⟩
noncomputable def o30 (P : Params) : Obj := ⟨.none, none, (.fields (List.toArray [])), List.toArray []⟩
noncomputable def o31 (P : Params) : Obj := ⟨(.type "tuple"), none, (.seq (List.toArray [(.str (Str.ofString "self") 211), (.str (Str.ofString "index") 212), (.str (Str.ofString "doc") 213)]) 0), List.toArray []⟩
noncomputable def o32 (P : Params) : Obj := ⟨(.type "tuple"), none, (.seq (List.toArray []) 0), List.toArray []⟩
noncomputable def o33B (B : List Stmt) (P : Params) : Obj := ⟨.none, none, (.func { name := (Str.ofString "__init__"), qualname := (Str.ofString "_tuplegetter.__init__"), params := argsN (stN (bodyN (stN B 2)) 0), body := .stmts (bodyN (stN (bodyN (stN B 2)) 0)), scope := scopeN (stN (bodyN (stN B 2)) 0), globals := 0, closure := [], defaults := .none, kwdefaults := .none, doc := .none, pyModule := .none, annotations := none, code := .none, closureTuple := .none, builtins := 0 }), List.toArray []⟩
noncomputable def o33 (P : Params) : Obj := o33B pwBody P
noncomputable def o34 (P : Params) : Obj := ⟨(.type "code"), none, (.fields (List.toArray [(.str (Str.ofString "__init__") 208), (.str (Str.ofString "_tuplegetter.__init__") 209), (.str (Str.ofString "/claim/cut.py") 210), (.int 7 0), (.int 3 0), (.int 0 0), (.int 0 0), (.int 3 0), (.ref 29), (.bool true), (.int 181 0), (.ref 30), .none, (.ref 31), (.ref 32), (.ref 33), (.int 214 0), (.int 7 0), (.str (Str.ofString "/claim/cut.py") 215)])), List.toArray []⟩
noncomputable def fd35B (B : List Stmt) : FuncData := { name := (Str.ofString "__init__"), qualname := (Str.ofString "_tuplegetter.__init__"), params := argsN (stN (bodyN (stN B 2)) 0), body := .stmts (bodyN (stN (bodyN (stN B 2)) 0)), scope := scopeN (stN (bodyN (stN B 2)) 0), globals := 3, closure := [], defaults := .none, kwdefaults := .none, doc := .none, pyModule := (.str (Str.ofString "cpy313.difflib") 194), annotations := none, code := (.ref 34), closureTuple := .none, builtins := 0 }
noncomputable def fd35 : FuncData := fd35B pwBody
noncomputable def at_tuplegetter_init : Addr := 35
noncomputable def fdOf_tuplegetter_init : FuncData := fd35
noncomputable def o35B (B : List Stmt) (P : Params) : Obj := ⟨(.type "function"), none, (.func (fd35B B)), List.toArray []⟩
noncomputable def o35 (P : Params) : Obj := o35B pwBody P
noncomputable def obOf_tuplegetter_init (P : Params) : Obj := o35 P
noncomputable def o36 (P : Params) : Obj := ⟨(.type "tuple"), none, (.seq (List.toArray [.none]) 0), List.toArray []⟩
noncomputable def o37 (P : Params) : Obj := ⟨(.type "tuple"), none, (.seq (List.toArray []) 0), List.toArray []⟩
noncomputable def o38 (P : Params) : Obj := ⟨.none, none, (.fields (List.toArray [])), List.toArray []⟩
noncomputable def o39 (P : Params) : Obj := ⟨(.type "tuple"), none, (.seq (List.toArray [(.str (Str.ofString "self") 220), (.str (Str.ofString "obj") 221), (.str (Str.ofString "objtype") 222)]) 0), List.toArray []⟩
noncomputable def o40 (P : Params) : Obj := ⟨(.type "tuple"), none, (.seq (List.toArray []) 0), List.toArray []⟩
noncomputable def o41B (B : List Stmt) (P : Params) : Obj := ⟨.none, none, (.func { name := (Str.ofString "__get__"), qualname := (Str.ofString "_tuplegetter.__get__"), params := argsN (stN (bodyN (stN B 2)) 1), body := .stmts (bodyN (stN (bodyN (stN B 2)) 1)), scope := scopeN (stN (bodyN (stN B 2)) 1), globals := 0, closure := [], defaults := .none, kwdefaults := .none, doc := .none, pyModule := .none, annotations := none, code := .none, closureTuple := .none, builtins := 0 }), List.toArray []⟩
noncomputable def o41 (P : Params) : Obj := o41B pwBody P
noncomputable def o42 (P : Params) : Obj := ⟨(.type "code"), none, (.fields (List.toArray [(.str (Str.ofString "__get__") 217), (.str (Str.ofString "_tuplegetter.__get__") 218), (.str (Str.ofString "/claim/cut.py") 219), (.int 11 0), (.int 3 0), (.int 0 0), (.int 0 0), (.int 3 0), (.ref 37), (.bool true), (.int 181 0), (.ref 38), .none, (.ref 39), (.ref 40), (.ref 41), (.int 223 0), (.int 11 0), (.str (Str.ofString "/claim/cut.py") 224)])), List.toArray []⟩
noncomputable def fd43B (B : List Stmt) : FuncData := { name := (Str.ofString "__get__"), qualname := (Str.ofString "_tuplegetter.__get__"), params := argsN (stN (bodyN (stN B 2)) 1), body := .stmts (bodyN (stN (bodyN (stN B 2)) 1)), scope := scopeN (stN (bodyN (stN B 2)) 1), globals := 3, closure := [], defaults := (.ref 36), kwdefaults := .none, doc := .none, pyModule := (.str (Str.ofString "cpy313.difflib") 194), annotations := none, code := (.ref 42), closureTuple := .none, builtins := 0 }
noncomputable def fd43 : FuncData := fd43B pwBody
noncomputable def at_tuplegetter_get : Addr := 43
noncomputable def fdOf_tuplegetter_get : FuncData := fd43
noncomputable def o43B (B : List Stmt) (P : Params) : Obj := ⟨(.type "function"), none, (.func (fd43B B)), List.toArray []⟩
noncomputable def o43 (P : Params) : Obj := o43B pwBody P
noncomputable def obOf_tuplegetter_get (P : Params) : Obj := o43 P
noncomputable def o44 (P : Params) : Obj := ⟨(.type "tuple"), none, (.seq (List.toArray []) 0), List.toArray []⟩
noncomputable def o45 (P : Params) : Obj := ⟨.none, none, (.fields (List.toArray [])), List.toArray []⟩
noncomputable def o46 (P : Params) : Obj := ⟨(.type "tuple"), none, (.seq (List.toArray [(.str (Str.ofString "self") 229), (.str (Str.ofString "obj") 230), (.str (Str.ofString "value") 231)]) 0), List.toArray []⟩
noncomputable def o47 (P : Params) : Obj := ⟨(.type "tuple"), none, (.seq (List.toArray []) 0), List.toArray []⟩
noncomputable def o48B (B : List Stmt) (P : Params) : Obj := ⟨.none, none, (.func { name := (Str.ofString "__set__"), qualname := (Str.ofString "_tuplegetter.__set__"), params := argsN (stN (bodyN (stN B 2)) 2), body := .stmts (bodyN (stN (bodyN (stN B 2)) 2)), scope := scopeN (stN (bodyN (stN B 2)) 2), globals := 0, closure := [], defaults := .none, kwdefaults := .none, doc := .none, pyModule := .none, annotations := none, code := .none, closureTuple := .none, builtins := 0 }), List.toArray []⟩
noncomputable def o48 (P : Params) : Obj := o48B pwBody P
noncomputable def o49 (P : Params) : Obj := ⟨(.type "code"), none, (.fields (List.toArray [(.str (Str.ofString "__set__") 226), (.str (Str.ofString "_tuplegetter.__set__") 227), (.str (Str.ofString "/claim/cut.py") 228), (.int 18 0), (.int 3 0), (.int 0 0), (.int 0 0), (.int 3 0), (.ref 44), (.bool true), (.int 181 0), (.ref 45), .none, (.ref 46), (.ref 47), (.ref 48), (.int 232 0), (.int 18 0), (.str (Str.ofString "/claim/cut.py") 233)])), List.toArray []⟩
noncomputable def fd50B (B : List Stmt) : FuncData := { name := (Str.ofString "__set__"), qualname := (Str.ofString "_tuplegetter.__set__"), params := argsN (stN (bodyN (stN B 2)) 2), body := .stmts (bodyN (stN (bodyN (stN B 2)) 2)), scope := scopeN (stN (bodyN (stN B 2)) 2), globals := 3, closure := [], defaults := .none, kwdefaults := .none, doc := .none, pyModule := (.str (Str.ofString "cpy313.difflib") 194), annotations := none, code := (.ref 49), closureTuple := .none, builtins := 0 }
noncomputable def fd50 : FuncData := fd50B pwBody
noncomputable def at_tuplegetter_set : Addr := 50
noncomputable def fdOf_tuplegetter_set : FuncData := fd50
noncomputable def o50B (B : List Stmt) (P : Params) : Obj := ⟨(.type "function"), none, (.func (fd50B B)), List.toArray []⟩
noncomputable def o50 (P : Params) : Obj := o50B pwBody P
noncomputable def obOf_tuplegetter_set (P : Params) : Obj := o50 P
noncomputable def o51 (P : Params) : Obj := ⟨(.type "tuple"), none, (.seq (List.toArray []) 0), List.toArray []⟩
noncomputable def o52 (P : Params) : Obj := ⟨.none, none, (.fields (List.toArray [])), List.toArray []⟩
noncomputable def o53 (P : Params) : Obj := ⟨(.type "tuple"), none, (.seq (List.toArray [(.str (Str.ofString "self") 238), (.str (Str.ofString "obj") 239)]) 0), List.toArray []⟩
noncomputable def o54 (P : Params) : Obj := ⟨(.type "tuple"), none, (.seq (List.toArray []) 0), List.toArray []⟩
noncomputable def o55B (B : List Stmt) (P : Params) : Obj := ⟨.none, none, (.func { name := (Str.ofString "__delete__"), qualname := (Str.ofString "_tuplegetter.__delete__"), params := argsN (stN (bodyN (stN B 2)) 3), body := .stmts (bodyN (stN (bodyN (stN B 2)) 3)), scope := scopeN (stN (bodyN (stN B 2)) 3), globals := 0, closure := [], defaults := .none, kwdefaults := .none, doc := .none, pyModule := .none, annotations := none, code := .none, closureTuple := .none, builtins := 0 }), List.toArray []⟩
noncomputable def o55 (P : Params) : Obj := o55B pwBody P
noncomputable def o56 (P : Params) : Obj := ⟨(.type "code"), none, (.fields (List.toArray [(.str (Str.ofString "__delete__") 235), (.str (Str.ofString "_tuplegetter.__delete__") 236), (.str (Str.ofString "/claim/cut.py") 237), (.int 21 0), (.int 2 0), (.int 0 0), (.int 0 0), (.int 3 0), (.ref 51), (.bool true), (.int 181 0), (.ref 52), .none, (.ref 53), (.ref 54), (.ref 55), (.int 240 0), (.int 21 0), (.str (Str.ofString "/claim/cut.py") 241)])), List.toArray []⟩
noncomputable def fd57B (B : List Stmt) : FuncData := { name := (Str.ofString "__delete__"), qualname := (Str.ofString "_tuplegetter.__delete__"), params := argsN (stN (bodyN (stN B 2)) 3), body := .stmts (bodyN (stN (bodyN (stN B 2)) 3)), scope := scopeN (stN (bodyN (stN B 2)) 3), globals := 3, closure := [], defaults := .none, kwdefaults := .none, doc := .none, pyModule := (.str (Str.ofString "cpy313.difflib") 194), annotations := none, code := (.ref 56), closureTuple := .none, builtins := 0 }
noncomputable def fd57 : FuncData := fd57B pwBody
noncomputable def at_tuplegetter_delete : Addr := 57
noncomputable def fdOf_tuplegetter_delete : FuncData := fd57
noncomputable def o57B (B : List Stmt) (P : Params) : Obj := ⟨(.type "function"), none, (.func (fd57B B)), List.toArray []⟩
noncomputable def o57 (P : Params) : Obj := o57B pwBody P
noncomputable def obOf_tuplegetter_delete (P : Params) : Obj := o57 P
noncomputable def o58 (P : Params) : Obj := ⟨(.type "tuple"), none, (.seq (List.toArray [(.str (Str.ofString "__doc__") 243), (.str (Str.ofString "index") 244)]) 0), List.toArray []⟩
noncomputable def o59 (P : Params) : Obj := ⟨(.type "dict"), none, (.dict (List.toArray [⟨PyData.keyHash P (Str.ofString "__module__"), (.str (Str.ofString "__module__") 203), (.str (Str.ofString "cpy313.difflib") 194)⟩, ⟨PyData.keyHash P (Str.ofString "__firstlineno__"), (.str (Str.ofString "__firstlineno__") 207), (.int 5 206)⟩, ⟨PyData.keyHash P (Str.ofString "__init__"), (.str (Str.ofString "__init__") 216), (.ref 35)⟩, ⟨PyData.keyHash P (Str.ofString "__get__"), (.str (Str.ofString "__get__") 225), (.ref 43)⟩, ⟨PyData.keyHash P (Str.ofString "__set__"), (.str (Str.ofString "__set__") 234), (.ref 50)⟩, ⟨PyData.keyHash P (Str.ofString "__delete__"), (.str (Str.ofString "__delete__") 242), (.ref 57)⟩, ⟨PyData.keyHash P (Str.ofString "__static_attributes__"), (.str (Str.ofString "__static_attributes__") 245), (.ref 58)⟩, ⟨PyData.keyHash P (Str.ofString "__dict__"), (.str (Str.ofString "__dict__") 247), (.ref 61)⟩, ⟨PyData.keyHash P (Str.ofString "__weakref__"), (.str (Str.ofString "__weakref__") 249), (.ref 62)⟩, ⟨PyData.keyHash P (Str.ofString "__doc__"), (.str (Str.ofString "__doc__") 250), .none⟩]) 4), List.toArray []⟩
noncomputable def at_tuplegetter : Addr := 60
noncomputable def o60 (P : Params) : Obj := ⟨(.type "type"), none, (.cls { name := (Str.ofString "_tuplegetter"), bases := [(.type "object")], mro := [(.ref 60), (.type "object")], ns := 59, qualname := (Str.ofString "_tuplegetter"), hasDict := true, slotNames := [], subclasses := [], abstract := false, collection := none, hasDel := false }), List.toArray [none, none, (some (.str (Str.ofString "_tuplegetter") 196)), (some (.str (Str.ofString "_tuplegetter") 204)), (some (.builtin "object.__new__")), (some (.bool true))]⟩
noncomputable def o61 (P : Params) : Obj := ⟨(.type "getset_descriptor"), none, (.fields (List.toArray [(.str (Str.ofString "__dict__") 246), (.ref 60), (.builtin "function.__dict__"), (.builtin "function.__dict__#set")])), List.toArray []⟩
noncomputable def o62 (P : Params) : Obj := ⟨(.type "getset_descriptor"), none, (.fields (List.toArray [(.str (Str.ofString "__weakref__") 248), (.ref 60), (.builtin "ExceptionGroup.__weakref__"), .none])), List.toArray []⟩
noncomputable def o63 (P : Params) : Obj := ⟨(.type "super"), none, (.fields (List.toArray [(.ref 60), (.ref 60), (.ref 60)])), List.toArray []⟩
noncomputable def o64 (P : Params) : Obj := ⟨(.type "builtin_function_or_method"), none, (.fields (List.toArray [(.builtin "object.__init_subclass__"), (.ref 60)])), List.toArray []⟩
noncomputable def o65 (P : Params) : Obj := ⟨(.type "tuple"), none, (.seq (List.toArray [(.type "tuple")]) 0), List.toArray []⟩
noncomputable def o66 (P : Params) : Obj := ⟨(.type "builtin_function_or_method"), none, (.fields (List.toArray [(.builtin "type.__prepare__"), (.type "type")])), List.toArray []⟩
noncomputable def o67 (P : Params) : Obj := ⟨(.type "dict"), none, (.dict (List.toArray [⟨PyData.keyHash P (Str.ofString "__module__"), (.str (Str.ofString "__module__") 260), (.str (Str.ofString "cpy313.difflib") 194)⟩, ⟨PyData.keyHash P (Str.ofString "__qualname__"), (.str (Str.ofString "__qualname__") 262), (.str (Str.ofString "Match") 261)⟩, ⟨PyData.keyHash P (Str.ofString "__firstlineno__"), (.str (Str.ofString "__firstlineno__") 264), (.int 23 263)⟩, ⟨PyData.keyHash P (Str.ofString "__doc__"), (.str (Str.ofString "__doc__") 266), (.str (Str.ofString "Match(a, b, size)") 265)⟩, ⟨PyData.keyHash P (Str.ofString "__slots__"), (.str (Str.ofString "__slots__") 268), (.ref 73)⟩, ⟨PyData.keyHash P (Str.ofString "_fields"), (.str (Str.ofString "_fields") 272), (.ref 74)⟩, ⟨PyData.keyHash P (Str.ofString "_field_defaults"), (.str (Str.ofString "_field_defaults") 273), (.ref 75)⟩, ⟨PyData.keyHash P (Str.ofString "__new__"), (.str (Str.ofString "__new__") 284), (.ref 82)⟩, ⟨PyData.keyHash P (Str.ofString "_make"), (.str (Str.ofString "_make") 306), (.ref 91)⟩, ⟨PyData.keyHash P (Str.ofString "_replace"), (.str (Str.ofString "_replace") 317), (.ref 100)⟩, ⟨PyData.keyHash P (Str.ofString "__replace__"), (.str (Str.ofString "__replace__") 318), (.ref 100)⟩, ⟨PyData.keyHash P (Str.ofString "__repr__"), (.str (Str.ofString "__repr__") 326), (.ref 107)⟩, ⟨PyData.keyHash P (Str.ofString "_asdict"), (.str (Str.ofString "_asdict") 333), (.ref 114)⟩, ⟨PyData.keyHash P (Str.ofString "__getnewargs__"), (.str (Str.ofString "__getnewargs__") 341), (.ref 121)⟩, ⟨PyData.keyHash P (Str.ofString "__match_args__"), (.str (Str.ofString "__match_args__") 345), (.ref 122)⟩, ⟨PyData.keyHash P (Str.ofString "a"), (.str (Str.ofString "a") 355), (.ref 124)⟩, ⟨PyData.keyHash P (Str.ofString "b"), (.str (Str.ofString "b") 365), (.ref 127)⟩, ⟨PyData.keyHash P (Str.ofString "size"), (.str (Str.ofString "size") 375), (.ref 130)⟩, ⟨PyData.keyHash P (Str.ofString "__static_attributes__"), (.str (Str.ofString "__static_attributes__") 376), (.ref 132)⟩, ⟨PyData.keyHash P (Str.ofString "__classcell__"), (.str (Str.ofString "__classcell__") 377), (.ref 68)⟩]) 20), List.toArray []⟩
noncomputable def o68 (P : Params) : Obj := ⟨(.type "cell"), none, (.cell (some (.ref 135))), List.toArray []⟩
noncomputable def o69 (P : Params) : Obj := ⟨(.type "tuple"), none, (.seq (List.toArray []) 0), List.toArray []⟩
noncomputable def o70 (P : Params) : Obj := ⟨.none, none, (.fields (List.toArray [(.int 29 0), (.int 4 0), (.ref 81), (.int 34 0), (.int 4 0), (.ref 88), (.int 41 0), (.int 4 0), (.ref 99), (.int 52 0), (.int 4 0), (.ref 106), (.int 56 0), (.int 4 0), (.ref 113), (.int 59 0), (.int 4 0), (.ref 120)])), List.toArray []⟩
noncomputable def o71 (P : Params) : Obj := ⟨(.type "code"), none, (.fields (List.toArray [(.str (Str.ofString "Match") 255), (.str (Str.ofString "Match") 256), (.str (Str.ofString "/claim/cut.py") 257), (.int 23 0), (.int 0 0), (.int 0 0), (.int 0 0), (.int 0 0), (.ref 69), (.bool false), (.int 181 0), (.ref 70), .none, .none, .none, .none, (.int 258 0), (.int 23 0), (.str (Str.ofString "/claim/cut.py") 259)])), List.toArray []⟩
noncomputable def o72 (P : Params) : Obj := ⟨(.type "frame"), none, .plain, List.toArray [(some (.ref 71)), (some (.ref 3)), (some (.ref 67)), none, (some (.str (Str.ofString "cpy313.difflib") 194)), none, (some (.ref 0))]⟩
noncomputable def o73 (P : Params) : Obj := ⟨(.type "tuple"), none, (.seq (List.toArray []) 0), List.toArray []⟩
noncomputable def o74 (P : Params) : Obj := ⟨(.type "tuple"), none, (.seq (List.toArray [(.str (Str.ofString "a") 269), (.str (Str.ofString "b") 270), (.str (Str.ofString "size") 271)]) 0), List.toArray []⟩
noncomputable def o75 (P : Params) : Obj := ⟨(.type "dict"), none, (.dict (List.toArray []) 0), List.toArray []⟩
noncomputable def o76 (P : Params) : Obj := ⟨(.type "tuple"), none, (.seq (List.toArray []) 0), List.toArray []⟩
noncomputable def o77 (P : Params) : Obj := ⟨.none, none, (.fields (List.toArray [])), List.toArray []⟩
noncomputable def o78 (P : Params) : Obj := ⟨(.type "tuple"), none, (.seq (List.toArray [(.str (Str.ofString "_cls") 277), (.str (Str.ofString "a") 278), (.str (Str.ofString "b") 279), (.str (Str.ofString "size") 280)]) 0), List.toArray []⟩
noncomputable def o79 (P : Params) : Obj := ⟨(.type "tuple"), none, (.seq (List.toArray []) 0), List.toArray []⟩
noncomputable def o80B (B : List Stmt) (P : Params) : Obj := ⟨.none, none, (.func { name := (Str.ofString "__new__"), qualname := (Str.ofString "Match.__new__"), params := argsN (stN (bodyN (stN B 3)) 4), body := .stmts (bodyN (stN (bodyN (stN B 3)) 4)), scope := scopeN (stN (bodyN (stN B 3)) 4), globals := 0, closure := [], defaults := .none, kwdefaults := .none, doc := .none, pyModule := .none, annotations := none, code := .none, closureTuple := .none, builtins := 0 }), List.toArray []⟩
noncomputable def o80 (P : Params) : Obj := o80B pwBody P
noncomputable def o81 (P : Params) : Obj := ⟨(.type "code"), none, (.fields (List.toArray [(.str (Str.ofString "__new__") 274), (.str (Str.ofString "Match.__new__") 275), (.str (Str.ofString "/claim/cut.py") 276), (.int 29 0), (.int 4 0), (.int 0 0), (.int 0 0), (.int 3 0), (.ref 76), (.bool true), (.int 181 0), (.ref 77), .none, (.ref 78), (.ref 79), (.ref 80), (.int 281 0), (.int 29 0), (.str (Str.ofString "/claim/cut.py") 282)])), List.toArray []⟩
noncomputable def fd82B (B : List Stmt) : FuncData := { name := (Str.ofString "__new__"), qualname := (Str.ofString "Match.__new__"), params := argsN (stN (bodyN (stN B 3)) 4), body := .stmts (bodyN (stN (bodyN (stN B 3)) 4)), scope := scopeN (stN (bodyN (stN B 3)) 4), globals := 3, closure := [], defaults := .none, kwdefaults := .none, doc := (.str (Str.ofString "Create new instance of Match(a, b, size)") 283), pyModule := (.str (Str.ofString "cpy313.difflib") 194), annotations := none, code := (.ref 81), closureTuple := .none, builtins := 0 }
noncomputable def fd82 : FuncData := fd82B pwBody
noncomputable def at_Match_new : Addr := 82
noncomputable def fdOf_Match_new : FuncData := fd82
noncomputable def o82B (B : List Stmt) (P : Params) : Obj := ⟨(.type "function"), none, (.func (fd82B B)), List.toArray []⟩
noncomputable def o82 (P : Params) : Obj := o82B pwBody P
noncomputable def obOf_Match_new (P : Params) : Obj := o82 P
noncomputable def o83 (P : Params) : Obj := ⟨(.type "tuple"), none, (.seq (List.toArray []) 0), List.toArray []⟩
noncomputable def o84 (P : Params) : Obj := ⟨.none, none, (.fields (List.toArray [])), List.toArray []⟩
noncomputable def o85 (P : Params) : Obj := ⟨(.type "tuple"), none, (.seq (List.toArray [(.str (Str.ofString "cls") 288), (.str (Str.ofString "iterable") 289), (.str (Str.ofString "result") 290)]) 0), List.toArray []⟩
noncomputable def o86 (P : Params) : Obj := ⟨(.type "tuple"), none, (.seq (List.toArray []) 0), List.toArray []⟩
noncomputable def o87B (B : List Stmt) (P : Params) : Obj := ⟨.none, none, (.func { name := (Str.ofString "_make"), qualname := (Str.ofString "Match._make"), params := argsN (stN (bodyN (stN B 3)) 5), body := .stmts (bodyN (stN (bodyN (stN B 3)) 5)), scope := scopeN (stN (bodyN (stN B 3)) 5), globals := 0, closure := [], defaults := .none, kwdefaults := .none, doc := .none, pyModule := .none, annotations := none, code := .none, closureTuple := .none, builtins := 0 }), List.toArray []⟩
noncomputable def o87 (P : Params) : Obj := o87B pwBody P
noncomputable def o88 (P : Params) : Obj := ⟨(.type "code"), none, (.fields (List.toArray [(.str (Str.ofString "_make") 285), (.str (Str.ofString "Match._make") 286), (.str (Str.ofString "/claim/cut.py") 287), (.int 33 0), (.int 2 0), (.int 0 0), (.int 0 0), (.int 3 0), (.ref 83), (.bool true), (.int 181 0), (.ref 84), .none, (.ref 85), (.ref 86), (.ref 87), (.int 291 0), (.int 33 0), (.str (Str.ofString "/claim/cut.py") 292)])), List.toArray []⟩
noncomputable def fd89B (B : List Stmt) : FuncData := { name := (Str.ofString "_make"), qualname := (Str.ofString "Match._make"), params := argsN (stN (bodyN (stN B 3)) 5), body := .stmts (bodyN (stN (bodyN (stN B 3)) 5)), scope := scopeN (stN (bodyN (stN B 3)) 5), globals := 3, closure := [], defaults := .none, kwdefaults := .none, doc := (.str (Str.ofString "Make a new Match object from a sequence or iterable") 293), pyModule := (.str (Str.ofString "cpy313.difflib") 194), annotations := (some 92), code := (.ref 88), closureTuple := .none, builtins := 0 }
noncomputable def fd89 : FuncData := fd89B pwBody
noncomputable def at_Match_make : Addr := 89
noncomputable def fdOf_Match_make : FuncData := fd89
noncomputable def o89B (B : List Stmt) (P : Params) : Obj := ⟨(.type "function"), none, (.func (fd89B B)), List.toArray []⟩
noncomputable def o89 (P : Params) : Obj := o89B pwBody P
noncomputable def obOf_Match_make (P : Params) : Obj := o89 P
noncomputable def o90 (P : Params) : Obj := ⟨(.type "dict"), none, (.dict (List.toArray [⟨PyData.keyHash P (Str.ofString "__module__"), (.str (Str.ofString "__module__") 295), (.str (Str.ofString "cpy313.difflib") 194)⟩, ⟨PyData.keyHash P (Str.ofString "__name__"), (.str (Str.ofString "__name__") 298), (.str (Str.ofString "_make") 297)⟩, ⟨PyData.keyHash P (Str.ofString "__qualname__"), (.str (Str.ofString "__qualname__") 301), (.str (Str.ofString "Match._make") 300)⟩, ⟨PyData.keyHash P (Str.ofString "__doc__"), (.str (Str.ofString "__doc__") 303), (.str (Str.ofString "Make a new Match object from a sequence or iterable") 293)⟩, ⟨PyData.keyHash P (Str.ofString "__annotations__"), (.str (Str.ofString "__annotations__") 305), (.ref 92)⟩]) 5), List.toArray []⟩
noncomputable def o91 (P : Params) : Obj := ⟨(.type "classmethod"), (some 90), (.fields (List.toArray [(.ref 89), (.bool false)])), List.toArray []⟩
noncomputable def o92 (P : Params) : Obj := ⟨(.type "dict"), none, (.dict (List.toArray []) 0), List.toArray []⟩
noncomputable def o93 (P : Params) : Obj := ⟨(.type "tuple"), none, (.seq (List.toArray [(.ref 68)]) 0), List.toArray []⟩
noncomputable def o94 (P : Params) : Obj := ⟨(.type "tuple"), none, (.seq (List.toArray [(.str (Str.ofString "__class__") 310)]) 0), List.toArray []⟩
noncomputable def o95 (P : Params) : Obj := ⟨.none, none, (.fields (List.toArray [])), List.toArray []⟩
noncomputable def o96 (P : Params) : Obj := ⟨(.type "tuple"), none, (.seq (List.toArray [(.str (Str.ofString "self") 311), (.str (Str.ofString "kwds") 312), (.str (Str.ofString "result") 313)]) 0), List.toArray []⟩
noncomputable def o97 (P : Params) : Obj := ⟨(.type "tuple"), none, (.seq (List.toArray []) 0), List.toArray []⟩
noncomputable def o98B (B : List Stmt) (P : Params) : Obj := ⟨.none, none, (.func { name := (Str.ofString "_replace"), qualname := (Str.ofString "Match._replace"), params := argsN (stN (bodyN (stN B 3)) 6), body := .stmts (bodyN (stN (bodyN (stN B 3)) 6)), scope := scopeN (stN (bodyN (stN B 3)) 6), globals := 0, closure := [], defaults := .none, kwdefaults := .none, doc := .none, pyModule := .none, annotations := none, code := .none, closureTuple := .none, builtins := 0 }), List.toArray []⟩
noncomputable def o98 (P : Params) : Obj := o98B pwBody P
noncomputable def o99 (P : Params) : Obj := ⟨(.type "code"), none, (.fields (List.toArray [(.str (Str.ofString "_replace") 307), (.str (Str.ofString "Match._replace") 308), (.str (Str.ofString "/claim/cut.py") 309), (.int 41 0), (.int 1 0), (.int 1 0), (.int 0 0), (.int 11 0), (.ref 94), (.bool true), (.int 181 0), (.ref 95), .none, (.ref 96), (.ref 97), (.ref 98), (.int 314 0), (.int 41 0), (.str (Str.ofString "/claim/cut.py") 315)])), List.toArray []⟩
noncomputable def fd100B (B : List Stmt) : FuncData := { name := (Str.ofString "_replace"), qualname := (Str.ofString "Match._replace"), params := argsN (stN (bodyN (stN B 3)) 6), body := .stmts (bodyN (stN (bodyN (stN B 3)) 6)), scope := scopeN (stN (bodyN (stN B 3)) 6), globals := 3, closure := [((Str.ofString "__class__"), 68)], defaults := .none, kwdefaults := .none, doc := (.str (docN (bodyN (stN (bodyN (stN B 3)) 6))) 316), pyModule := (.str (Str.ofString "cpy313.difflib") 194), annotations := none, code := (.ref 99), closureTuple := (.ref 93), builtins := 0 }
noncomputable def fd100 : FuncData := fd100B pwBody
noncomputable def at_Match_replace : Addr := 100
noncomputable def fdOf_Match_replace : FuncData := fd100
noncomputable def o100B (B : List Stmt) (P : Params) : Obj := ⟨(.type "function"), none, (.func (fd100B B)), List.toArray []⟩
noncomputable def o100 (P : Params) : Obj := o100B pwBody P
noncomputable def obOf_Match_replace (P : Params) : Obj := o100 P
noncomputable def o101 (P : Params) : Obj := ⟨(.type "tuple"), none, (.seq (List.toArray []) 0), List.toArray []⟩
noncomputable def o102 (P : Params) : Obj := ⟨.none, none, (.fields (List.toArray [])), List.toArray []⟩
noncomputable def o103 (P : Params) : Obj := ⟨(.type "tuple"), none, (.seq (List.toArray [(.str (Str.ofString "self") 322)]) 0), List.toArray []⟩
noncomputable def o104 (P : Params) : Obj := ⟨(.type "tuple"), none, (.seq (List.toArray []) 0), List.toArray []⟩
noncomputable def o105B (B : List Stmt) (P : Params) : Obj := ⟨.none, none, (.func { name := (Str.ofString "__repr__"), qualname := (Str.ofString "Match.__repr__"), params := argsN (stN (bodyN (stN B 3)) 8), body := .stmts (bodyN (stN (bodyN (stN B 3)) 8)), scope := scopeN (stN (bodyN (stN B 3)) 8), globals := 0, closure := [], defaults := .none, kwdefaults := .none, doc := .none, pyModule := .none, annotations := none, code := .none, closureTuple := .none, builtins := 0 }), List.toArray []⟩
noncomputable def o105 (P : Params) : Obj := o105B pwBody P
noncomputable def o106 (P : Params) : Obj := ⟨(.type "code"), none, (.fields (List.toArray [(.str (Str.ofString "__repr__") 319), (.str (Str.ofString "Match.__repr__") 320), (.str (Str.ofString "/claim/cut.py") 321), (.int 52 0), (.int 1 0), (.int 0 0), (.int 0 0), (.int 3 0), (.ref 101), (.bool true), (.int 181 0), (.ref 102), .none, (.ref 103), (.ref 104), (.ref 105), (.int 323 0), (.int 52 0), (.str (Str.ofString "/claim/cut.py") 324)])), List.toArray []⟩
noncomputable def fd107B (B : List Stmt) : FuncData := { name := (Str.ofString "__repr__"), qualname := (Str.ofString "Match.__repr__"), params := argsN (stN (bodyN (stN B 3)) 8), body := .stmts (bodyN (stN (bodyN (stN B 3)) 8)), scope := scopeN (stN (bodyN (stN B 3)) 8), globals := 3, closure := [], defaults := .none, kwdefaults := .none, doc := (.str (Str.ofString "Return a nicely formatted representation string") 325), pyModule := (.str (Str.ofString "cpy313.difflib") 194), annotations := none, code := (.ref 106), closureTuple := .none, builtins := 0 }
noncomputable def fd107 : FuncData := fd107B pwBody
noncomputable def at_Match_repr : Addr := 107
noncomputable def fdOf_Match_repr : FuncData := fd107
noncomputable def o107B (B : List Stmt) (P : Params) : Obj := ⟨(.type "function"), none, (.func (fd107B B)), List.toArray []⟩
noncomputable def o107 (P : Params) : Obj := o107B pwBody P
noncomputable def obOf_Match_repr (P : Params) : Obj := o107 P
noncomputable def o108 (P : Params) : Obj := ⟨(.type "tuple"), none, (.seq (List.toArray []) 0), List.toArray []⟩
noncomputable def o109 (P : Params) : Obj := ⟨.none, none, (.fields (List.toArray [])), List.toArray []⟩
noncomputable def o110 (P : Params) : Obj := ⟨(.type "tuple"), none, (.seq (List.toArray [(.str (Str.ofString "self") 330)]) 0), List.toArray []⟩
noncomputable def o111 (P : Params) : Obj := ⟨(.type "tuple"), none, (.seq (List.toArray []) 0), List.toArray []⟩
noncomputable def o112B (B : List Stmt) (P : Params) : Obj := ⟨.none, none, (.func { name := (Str.ofString "_asdict"), qualname := (Str.ofString "Match._asdict"), params := argsN (stN (bodyN (stN B 3)) 9), body := .stmts (bodyN (stN (bodyN (stN B 3)) 9)), scope := scopeN (stN (bodyN (stN B 3)) 9), globals := 0, closure := [], defaults := .none, kwdefaults := .none, doc := .none, pyModule := .none, annotations := none, code := .none, closureTuple := .none, builtins := 0 }), List.toArray []⟩
noncomputable def o112 (P : Params) : Obj := o112B pwBody P
noncomputable def o113 (P : Params) : Obj := ⟨(.type "code"), none, (.fields (List.toArray [(.str (Str.ofString "_asdict") 327), (.str (Str.ofString "Match._asdict") 328), (.str (Str.ofString "/claim/cut.py") 329), (.int 56 0), (.int 1 0), (.int 0 0), (.int 0 0), (.int 3 0), (.ref 108), (.bool true), (.int 181 0), (.ref 109), .none, (.ref 110), (.ref 111), (.ref 112), (.int 331 0), (.int 56 0), (.str (Str.ofString "/claim/cut.py") 332)])), List.toArray []⟩
noncomputable def fd114B (B : List Stmt) : FuncData := { name := (Str.ofString "_asdict"), qualname := (Str.ofString "Match._asdict"), params := argsN (stN (bodyN (stN B 3)) 9), body := .stmts (bodyN (stN (bodyN (stN B 3)) 9)), scope := scopeN (stN (bodyN (stN B 3)) 9), globals := 3, closure := [], defaults := .none, kwdefaults := .none, doc := .none, pyModule := (.str (Str.ofString "cpy313.difflib") 194), annotations := none, code := (.ref 113), closureTuple := .none, builtins := 0 }
noncomputable def fd114 : FuncData := fd114B pwBody
noncomputable def at_Match_asdict : Addr := 114
noncomputable def fdOf_Match_asdict : FuncData := fd114
noncomputable def o114B (B : List Stmt) (P : Params) : Obj := ⟨(.type "function"), none, (.func (fd114B B)), List.toArray []⟩
noncomputable def o114 (P : Params) : Obj := o114B pwBody P
noncomputable def obOf_Match_asdict (P : Params) : Obj := o114 P
noncomputable def o115 (P : Params) : Obj := ⟨(.type "tuple"), none, (.seq (List.toArray []) 0), List.toArray []⟩
noncomputable def o116 (P : Params) : Obj := ⟨.none, none, (.fields (List.toArray [])), List.toArray []⟩
noncomputable def o117 (P : Params) : Obj := ⟨(.type "tuple"), none, (.seq (List.toArray [(.str (Str.ofString "self") 337)]) 0), List.toArray []⟩
noncomputable def o118 (P : Params) : Obj := ⟨(.type "tuple"), none, (.seq (List.toArray []) 0), List.toArray []⟩
noncomputable def o119B (B : List Stmt) (P : Params) : Obj := ⟨.none, none, (.func { name := (Str.ofString "__getnewargs__"), qualname := (Str.ofString "Match.__getnewargs__"), params := argsN (stN (bodyN (stN B 3)) 10), body := .stmts (bodyN (stN (bodyN (stN B 3)) 10)), scope := scopeN (stN (bodyN (stN B 3)) 10), globals := 0, closure := [], defaults := .none, kwdefaults := .none, doc := .none, pyModule := .none, annotations := none, code := .none, closureTuple := .none, builtins := 0 }), List.toArray []⟩
noncomputable def o119 (P : Params) : Obj := o119B pwBody P
noncomputable def o120 (P : Params) : Obj := ⟨(.type "code"), none, (.fields (List.toArray [(.str (Str.ofString "__getnewargs__") 334), (.str (Str.ofString "Match.__getnewargs__") 335), (.str (Str.ofString "/claim/cut.py") 336), (.int 59 0), (.int 1 0), (.int 0 0), (.int 0 0), (.int 3 0), (.ref 115), (.bool true), (.int 181 0), (.ref 116), .none, (.ref 117), (.ref 118), (.ref 119), (.int 338 0), (.int 59 0), (.str (Str.ofString "/claim/cut.py") 339)])), List.toArray []⟩
noncomputable def fd121B (B : List Stmt) : FuncData := { name := (Str.ofString "__getnewargs__"), qualname := (Str.ofString "Match.__getnewargs__"), params := argsN (stN (bodyN (stN B 3)) 10), body := .stmts (bodyN (stN (bodyN (stN B 3)) 10)), scope := scopeN (stN (bodyN (stN B 3)) 10), globals := 3, closure := [], defaults := .none, kwdefaults := .none, doc := (.str (Str.ofString "Return self as a plain tuple.  Used by copy and pickle.") 340), pyModule := (.str (Str.ofString "cpy313.difflib") 194), annotations := none, code := (.ref 120), closureTuple := .none, builtins := 0 }
noncomputable def fd121 : FuncData := fd121B pwBody
noncomputable def at_Match_getnewargs : Addr := 121
noncomputable def fdOf_Match_getnewargs : FuncData := fd121
noncomputable def o121B (B : List Stmt) (P : Params) : Obj := ⟨(.type "function"), none, (.func (fd121B B)), List.toArray []⟩
noncomputable def o121 (P : Params) : Obj := o121B pwBody P
noncomputable def obOf_Match_getnewargs (P : Params) : Obj := o121 P
noncomputable def o122 (P : Params) : Obj := ⟨(.type "tuple"), none, (.seq (List.toArray [(.str (Str.ofString "a") 342), (.str (Str.ofString "b") 343), (.str (Str.ofString "size") 344)]) 0), List.toArray []⟩
noncomputable def o123 (P : Params) : Obj := ⟨(.type "dict"), none, (.dict (List.toArray [⟨PyData.keyHash P (Str.ofString "index"), (.str (Str.ofString "index") 352), (.int 0 346)⟩, ⟨PyData.keyHash P (Str.ofString "__doc__"), (.str (Str.ofString "__doc__") 354), (.str (Str.ofString "Alias for field number 0") 347)⟩]) 2), List.toArray []⟩
noncomputable def o124 (P : Params) : Obj := ⟨(.ref 60), (some 123), .plain, List.toArray []⟩
noncomputable def o125 (P : Params) : Obj := ⟨(.type "frame"), none, (.dict (List.toArray [⟨PyData.keyHash P (Str.ofString "self"), (.str (Str.ofString "self") 348), (.ref 124)⟩, ⟨PyData.keyHash P (Str.ofString "index"), (.str (Str.ofString "index") 349), (.int 0 346)⟩, ⟨PyData.keyHash P (Str.ofString "doc"), (.str (Str.ofString "doc") 350), (.str (Str.ofString "Alias for field number 0") 347)⟩]) 3), List.toArray []⟩
noncomputable def o126 (P : Params) : Obj := ⟨(.type "dict"), none, (.dict (List.toArray [⟨PyData.keyHash P (Str.ofString "index"), (.str (Str.ofString "index") 362), (.int 1 356)⟩, ⟨PyData.keyHash P (Str.ofString "__doc__"), (.str (Str.ofString "__doc__") 364), (.str (Str.ofString "Alias for field number 1") 357)⟩]) 2), List.toArray []⟩
noncomputable def o127 (P : Params) : Obj := ⟨(.ref 60), (some 126), .plain, List.toArray []⟩
noncomputable def o128 (P : Params) : Obj := ⟨(.type "frame"), none, (.dict (List.toArray [⟨PyData.keyHash P (Str.ofString "self"), (.str (Str.ofString "self") 358), (.ref 127)⟩, ⟨PyData.keyHash P (Str.ofString "index"), (.str (Str.ofString "index") 359), (.int 1 356)⟩, ⟨PyData.keyHash P (Str.ofString "doc"), (.str (Str.ofString "doc") 360), (.str (Str.ofString "Alias for field number 1") 357)⟩]) 3), List.toArray []⟩
noncomputable def o129 (P : Params) : Obj := ⟨(.type "dict"), none, (.dict (List.toArray [⟨PyData.keyHash P (Str.ofString "index"), (.str (Str.ofString "index") 372), (.int 2 366)⟩, ⟨PyData.keyHash P (Str.ofString "__doc__"), (.str (Str.ofString "__doc__") 374), (.str (Str.ofString "Alias for field number 2") 367)⟩]) 2), List.toArray []⟩
noncomputable def o130 (P : Params) : Obj := ⟨(.ref 60), (some 129), .plain, List.toArray []⟩
noncomputable def o131 (P : Params) : Obj := ⟨(.type "frame"), none, (.dict (List.toArray [⟨PyData.keyHash P (Str.ofString "self"), (.str (Str.ofString "self") 368), (.ref 130)⟩, ⟨PyData.keyHash P (Str.ofString "index"), (.str (Str.ofString "index") 369), (.int 2 366)⟩, ⟨PyData.keyHash P (Str.ofString "doc"), (.str (Str.ofString "doc") 370), (.str (Str.ofString "Alias for field number 2") 367)⟩]) 3), List.toArray []⟩
noncomputable def o132 (P : Params) : Obj := ⟨(.type "tuple"), none, (.seq (List.toArray []) 0), List.toArray []⟩
noncomputable def o133 (P : Params) : Obj := ⟨(.type "list"), none, (.seq (List.toArray []) 0), List.toArray []⟩
noncomputable def o134 (P : Params) : Obj := ⟨(.type "dict"), none, (.dict (List.toArray [⟨PyData.keyHash P (Str.ofString "__module__"), (.str (Str.ofString "__module__") 260), (.str (Str.ofString "cpy313.difflib") 194)⟩, ⟨PyData.keyHash P (Str.ofString "__firstlineno__"), (.str (Str.ofString "__firstlineno__") 264), (.int 23 263)⟩, ⟨PyData.keyHash P (Str.ofString "__doc__"), (.str (Str.ofString "__doc__") 266), (.str (Str.ofString "Match(a, b, size)") 265)⟩, ⟨PyData.keyHash P (Str.ofString "__slots__"), (.str (Str.ofString "__slots__") 268), (.ref 73)⟩, ⟨PyData.keyHash P (Str.ofString "_fields"), (.str (Str.ofString "_fields") 272), (.ref 74)⟩, ⟨PyData.keyHash P (Str.ofString "_field_defaults"), (.str (Str.ofString "_field_defaults") 273), (.ref 75)⟩, ⟨PyData.keyHash P (Str.ofString "__new__"), (.str (Str.ofString "__new__") 284), (.ref 136)⟩, ⟨PyData.keyHash P (Str.ofString "_make"), (.str (Str.ofString "_make") 306), (.ref 91)⟩, ⟨PyData.keyHash P (Str.ofString "_replace"), (.str (Str.ofString "_replace") 317), (.ref 100)⟩, ⟨PyData.keyHash P (Str.ofString "__replace__"), (.str (Str.ofString "__replace__") 318), (.ref 100)⟩, ⟨PyData.keyHash P (Str.ofString "__repr__"), (.str (Str.ofString "__repr__") 326), (.ref 107)⟩, ⟨PyData.keyHash P (Str.ofString "_asdict"), (.str (Str.ofString "_asdict") 333), (.ref 114)⟩, ⟨PyData.keyHash P (Str.ofString "__getnewargs__"), (.str (Str.ofString "__getnewargs__") 341), (.ref 121)⟩, ⟨PyData.keyHash P (Str.ofString "__match_args__"), (.str (Str.ofString "__match_args__") 345), (.ref 122)⟩, ⟨PyData.keyHash P (Str.ofString "a"), (.str (Str.ofString "a") 355), (.ref 124)⟩, ⟨PyData.keyHash P (Str.ofString "b"), (.str (Str.ofString "b") 365), (.ref 127)⟩, ⟨PyData.keyHash P (Str.ofString "size"), (.str (Str.ofString "size") 375), (.ref 130)⟩, ⟨PyData.keyHash P (Str.ofString "__static_attributes__"), (.str (Str.ofString "__static_attributes__") 376), (.ref 132)⟩]) 2), List.toArray []⟩
noncomputable def at_Match : Addr := 135
noncomputable def o135 (P : Params) : Obj := ⟨(.type "type"), none, (.cls { name := (Str.ofString "Match"), bases := [(.type "tuple")], mro := [(.ref 135), (.type "tuple"), (.type "object")], ns := 134, qualname := (Str.ofString "Match"), hasDict := false, slotNames := [], subclasses := [], abstract := false, collection := none, hasDel := false }), List.toArray [(some (.ref 65)), none, (some (.str (Str.ofString "Match") 253)), (some (.str (Str.ofString "Match") 261)), (some .none), (some (.bool false))]⟩
noncomputable def o136 (P : Params) : Obj := ⟨(.type "staticmethod"), none, (.fields (List.toArray [(.ref 82)])), List.toArray []⟩
noncomputable def o137 (P : Params) : Obj := ⟨(.type "super"), none, (.fields (List.toArray [(.ref 135), (.ref 135), (.ref 135)])), List.toArray []⟩
noncomputable def o138 (P : Params) : Obj := ⟨(.type "builtin_function_or_method"), none, (.fields (List.toArray [(.builtin "object.__init_subclass__"), (.ref 135)])), List.toArray []⟩
noncomputable def o139 (P : Params) : Obj := ⟨(.type "tuple"), none, (.seq (List.toArray []) 0), List.toArray []⟩
noncomputable def o140 (P : Params) : Obj := ⟨.none, none, (.fields (List.toArray [])), List.toArray []⟩
noncomputable def o141 (P : Params) : Obj := ⟨(.type "tuple"), none, (.seq (List.toArray [(.str (Str.ofString "matches") 384), (.str (Str.ofString "length") 385)]) 0), List.toArray []⟩
noncomputable def o142 (P : Params) : Obj := ⟨(.type "tuple"), none, (.seq (List.toArray []) 0), List.toArray []⟩
noncomputable def o143B (B : List Stmt) (P : Params) : Obj := ⟨.none, none, (.func { name := (Str.ofString "_calculate_ratio"), qualname := (Str.ofString "_calculate_ratio"), params := argsN (stN B 4), body := .stmts (bodyN (stN B 4)), scope := scopeN (stN B 4), globals := 0, closure := [], defaults := .none, kwdefaults := .none, doc := .none, pyModule := .none, annotations := none, code := .none, closureTuple := .none, builtins := 0 }), List.toArray []⟩
noncomputable def o143 (P : Params) : Obj := o143B pwBody P
noncomputable def o144 (P : Params) : Obj := ⟨(.type "code"), none, (.fields (List.toArray [(.str (Str.ofString "_calculate_ratio") 381), (.str (Str.ofString "_calculate_ratio") 382), (.str (Str.ofString "/claim/cut.py") 383), (.int 66 0), (.int 2 0), (.int 0 0), (.int 0 0), (.int 3 0), (.ref 139), (.bool true), (.int 181 0), (.ref 140), .none, (.ref 141), (.ref 142), (.ref 143), (.int 386 0), (.int 66 0), (.str (Str.ofString "/claim/cut.py") 387)])), List.toArray []⟩
noncomputable def fd145B (B : List Stmt) : FuncData := { name := (Str.ofString "_calculate_ratio"), qualname := (Str.ofString "_calculate_ratio"), params := argsN (stN B 4), body := .stmts (bodyN (stN B 4)), scope := scopeN (stN B 4), globals := 3, closure := [], defaults := .none, kwdefaults := .none, doc := .none, pyModule := (.str (Str.ofString "cpy313.difflib") 194), annotations := none, code := (.ref 144), closureTuple := .none, builtins := 0 }
noncomputable def fd145 : FuncData := fd145B pwBody
noncomputable def at_calculate_ratio : Addr := 145
noncomputable def fdOf_calculate_ratio : FuncData := fd145
noncomputable def o145B (B : List Stmt) (P : Params) : Obj := ⟨(.type "function"), none, (.func (fd145B B)), List.toArray []⟩
noncomputable def o145 (P : Params) : Obj := o145B pwBody P
noncomputable def obOf_calculate_ratio (P : Params) : Obj := o145 P
noncomputable def o146 (P : Params) : Obj := ⟨(.type "tuple"), none, (.seq (List.toArray []) 0), List.toArray []⟩
noncomputable def o147 (P : Params) : Obj := ⟨(.type "builtin_function_or_method"), none, (.fields (List.toArray [(.builtin "type.__prepare__"), (.type "type")])), List.toArray []⟩
noncomputable def o148B (B : List Stmt) (P : Params) : Obj := ⟨(.type "dict"), none, (.dict (List.toArray [⟨PyData.keyHash P (Str.ofString "__module__"), (.str (Str.ofString "__module__") 396), (.str (Str.ofString "cpy313.difflib") 194)⟩, ⟨PyData.keyHash P (Str.ofString "__qualname__"), (.str (Str.ofString "__qualname__") 398), (.str (Str.ofString "SequenceMatcher") 397)⟩, ⟨PyData.keyHash P (Str.ofString "__firstlineno__"), (.str (Str.ofString "__firstlineno__") 400), (.int 70 399)⟩, ⟨PyData.keyHash P (Str.ofString "__doc__"), (.str (Str.ofString "__doc__") 402), (.str (docN (bodyN (stN B 5))) 401)⟩, ⟨PyData.keyHash P (Str.ofString "__init__"), (.str (Str.ofString "__init__") 417), (.ref 160)⟩, ⟨PyData.keyHash P (Str.ofString "set_seqs"), (.str (Str.ofString "set_seqs") 427), (.ref 167)⟩, ⟨PyData.keyHash P (Str.ofString "set_seq1"), (.str (Str.ofString "set_seq1") 436), (.ref 174)⟩, ⟨PyData.keyHash P (Str.ofString "set_seq2"), (.str (Str.ofString "set_seq2") 445), (.ref 181)⟩, ⟨PyData.keyHash P (Str.ofString "_SequenceMatcher__chain_b"), (.str (Str.ofString "_SequenceMatcher__chain_b") 463), (.ref 188)⟩, ⟨PyData.keyHash P (Str.ofString "find_longest_match"), (.str (Str.ofString "find_longest_match") 491), (.ref 196)⟩, ⟨PyData.keyHash P (Str.ofString "get_matching_blocks"), (.str (Str.ofString "get_matching_blocks") 518), (.ref 203)⟩, ⟨PyData.keyHash P (Str.ofString "get_opcodes"), (.str (Str.ofString "get_opcodes") 525), (.ref 210)⟩, ⟨PyData.keyHash P (Str.ofString "get_grouped_opcodes"), (.str (Str.ofString "get_grouped_opcodes") 534), (.ref 218)⟩, ⟨PyData.keyHash P (Str.ofString "ratio"), (.str (Str.ofString "ratio") 543), (.ref 225)⟩, ⟨PyData.keyHash P (Str.ofString "quick_ratio"), (.str (Str.ofString "quick_ratio") 557), (.ref 232)⟩, ⟨PyData.keyHash P (Str.ofString "real_quick_ratio"), (.str (Str.ofString "real_quick_ratio") 564), (.ref 239)⟩, ⟨PyData.keyHash P (Str.ofString "__static_attributes__"), (.str (Str.ofString "__static_attributes__") 575), (.ref 240)⟩]) 17), List.toArray []⟩
noncomputable def o148 (P : Params) : Obj := o148B pwBody P
noncomputable def o149 (P : Params) : Obj := ⟨(.type "tuple"), none, (.seq (List.toArray []) 0), List.toArray []⟩
noncomputable def o150 (P : Params) : Obj := ⟨.none, none, (.fields (List.toArray [(.int 145 0), (.int 4 0), (.ref 159), (.int 173 0), (.int 4 0), (.ref 166), (.int 184 0), (.int 4 0), (.ref 173), (.int 209 0), (.int 4 0), (.ref 180), (.int 236 0), (.int 4 0), (.ref 187), (.int 260 0), (.int 4 0), (.ref 195), (.int 335 0), (.int 4 0), (.ref 202), (.int 383 0), (.int 4 0), (.ref 209), (.int 386 0), (.int 4 0), (.ref 217), (.int 389 0), (.int 4 0), (.ref 224), (.int 413 0), (.int 4 0), (.ref 231), (.int 436 0), (.int 4 0), (.ref 238)])), List.toArray []⟩
noncomputable def o151 (P : Params) : Obj := ⟨(.type "code"), none, (.fields (List.toArray [(.str (Str.ofString "SequenceMatcher") 391), (.str (Str.ofString "SequenceMatcher") 392), (.str (Str.ofString "/claim/cut.py") 393), (.int 70 0), (.int 0 0), (.int 0 0), (.int 0 0), (.int 0 0), (.ref 149), (.bool false), (.int 181 0), (.ref 150), .none, .none, .none, .none, (.int 394 0), (.int 70 0), (.str (Str.ofString "/claim/cut.py") 395)])), List.toArray []⟩
noncomputable def o152 (P : Params) : Obj := ⟨(.type "frame"), none, .plain, List.toArray [(some (.ref 151)), (some (.ref 3)), (some (.ref 148)), none, (some (.str (Str.ofString "cpy313.difflib") 194)), none, (some (.ref 0))]⟩
noncomputable def o153 (P : Params) : Obj := ⟨(.type "tuple"), none, (.seq (List.toArray [.none, (.str (Str.ofString "") 404), (.str (Str.ofString "") 405), (.bool true)]) 0), List.toArray []⟩
noncomputable def o154 (P : Params) : Obj := ⟨(.type "tuple"), none, (.seq (List.toArray []) 0), List.toArray []⟩
noncomputable def o155 (P : Params) : Obj := ⟨.none, none, (.fields (List.toArray [])), List.toArray []⟩
noncomputable def o156 (P : Params) : Obj := ⟨(.type "tuple"), none, (.seq (List.toArray [(.str (Str.ofString "self") 409), (.str (Str.ofString "isjunk") 410), (.str (Str.ofString "a") 411), (.str (Str.ofString "b") 412), (.str (Str.ofString "autojunk") 413)]) 0), List.toArray []⟩
noncomputable def o157 (P : Params) : Obj := ⟨(.type "tuple"), none, (.seq (List.toArray []) 0), List.toArray []⟩
noncomputable def o158B (B : List Stmt) (P : Params) : Obj := ⟨.none, none, (.func { name := (Str.ofString "__init__"), qualname := (Str.ofString "SequenceMatcher.__init__"), params := argsN (stN (bodyN (stN B 5)) 1), body := .stmts (bodyN (stN (bodyN (stN B 5)) 1)), scope := scopeN (stN (bodyN (stN B 5)) 1), globals := 0, closure := [], defaults := .none, kwdefaults := .none, doc := .none, pyModule := .none, annotations := none, code := .none, closureTuple := .none, builtins := 0 }), List.toArray []⟩
noncomputable def o158 (P : Params) : Obj := o158B pwBody P
noncomputable def o159 (P : Params) : Obj := ⟨(.type "code"), none, (.fields (List.toArray [(.str (Str.ofString "__init__") 406), (.str (Str.ofString "SequenceMatcher.__init__") 407), (.str (Str.ofString "/claim/cut.py") 408), (.int 145 0), (.int 5 0), (.int 0 0), (.int 0 0), (.int 3 0), (.ref 154), (.bool true), (.int 181 0), (.ref 155), .none, (.ref 156), (.ref 157), (.ref 158), (.int 414 0), (.int 145 0), (.str (Str.ofString "/claim/cut.py") 415)])), List.toArray []⟩
noncomputable def fd160B (B : List Stmt) : FuncData := { name := (Str.ofString "__init__"), qualname := (Str.ofString "SequenceMatcher.__init__"), params := argsN (stN (bodyN (stN B 5)) 1), body := .stmts (bodyN (stN (bodyN (stN B 5)) 1)), scope := scopeN (stN (bodyN (stN B 5)) 1), globals := 3, closure := [], defaults := (.ref 153), kwdefaults := .none, doc := (.str (docN (bodyN (stN (bodyN (stN B 5)) 1))) 416), pyModule := (.str (Str.ofString "cpy313.difflib") 194), annotations := none, code := (.ref 159), closureTuple := .none, builtins := 0 }
noncomputable def fd160 : FuncData := fd160B pwBody
noncomputable def at_SequenceMatcher_init : Addr := 160
noncomputable def fdOf_SequenceMatcher_init : FuncData := fd160
noncomputable def o160B (B : List Stmt) (P : Params) : Obj := ⟨(.type "function"), none, (.func (fd160B B)), List.toArray []⟩
noncomputable def o160 (P : Params) : Obj := o160B pwBody P
noncomputable def obOf_SequenceMatcher_init (P : Params) : Obj := o160 P
noncomputable def o161 (P : Params) : Obj := ⟨(.type "tuple"), none, (.seq (List.toArray []) 0), List.toArray []⟩
noncomputable def o162 (P : Params) : Obj := ⟨.none, none, (.fields (List.toArray [])), List.toArray []⟩
noncomputable def o163 (P : Params) : Obj := ⟨(.type "tuple"), none, (.seq (List.toArray [(.str (Str.ofString "self") 421), (.str (Str.ofString "a") 422), (.str (Str.ofString "b") 423)]) 0), List.toArray []⟩
noncomputable def o164 (P : Params) : Obj := ⟨(.type "tuple"), none, (.seq (List.toArray []) 0), List.toArray []⟩
noncomputable def o165B (B : List Stmt) (P : Params) : Obj := ⟨.none, none, (.func { name := (Str.ofString "set_seqs"), qualname := (Str.ofString "SequenceMatcher.set_seqs"), params := argsN (stN (bodyN (stN B 5)) 2), body := .stmts (bodyN (stN (bodyN (stN B 5)) 2)), scope := scopeN (stN (bodyN (stN B 5)) 2), globals := 0, closure := [], defaults := .none, kwdefaults := .none, doc := .none, pyModule := .none, annotations := none, code := .none, closureTuple := .none, builtins := 0 }), List.toArray []⟩
noncomputable def o165 (P : Params) : Obj := o165B pwBody P
noncomputable def o166 (P : Params) : Obj := ⟨(.type "code"), none, (.fields (List.toArray [(.str (Str.ofString "set_seqs") 418), (.str (Str.ofString "SequenceMatcher.set_seqs") 419), (.str (Str.ofString "/claim/cut.py") 420), (.int 173 0), (.int 3 0), (.int 0 0), (.int 0 0), (.int 3 0), (.ref 161), (.bool true), (.int 181 0), (.ref 162), .none, (.ref 163), (.ref 164), (.ref 165), (.int 424 0), (.int 173 0), (.str (Str.ofString "/claim/cut.py") 425)])), List.toArray []⟩
noncomputable def fd167B (B : List Stmt) : FuncData := { name := (Str.ofString "set_seqs"), qualname := (Str.ofString "SequenceMatcher.set_seqs"), params := argsN (stN (bodyN (stN B 5)) 2), body := .stmts (bodyN (stN (bodyN (stN B 5)) 2)), scope := scopeN (stN (bodyN (stN B 5)) 2), globals := 3, closure := [], defaults := .none, kwdefaults := .none, doc := (.str (docN (bodyN (stN (bodyN (stN B 5)) 2))) 426), pyModule := (.str (Str.ofString "cpy313.difflib") 194), annotations := none, code := (.ref 166), closureTuple := .none, builtins := 0 }
noncomputable def fd167 : FuncData := fd167B pwBody
noncomputable def at_SequenceMatcher_set_seqs : Addr := 167
noncomputable def fdOf_SequenceMatcher_set_seqs : FuncData := fd167
noncomputable def o167B (B : List Stmt) (P : Params) : Obj := ⟨(.type "function"), none, (.func (fd167B B)), List.toArray []⟩
noncomputable def o167 (P : Params) : Obj := o167B pwBody P
noncomputable def obOf_SequenceMatcher_set_seqs (P : Params) : Obj := o167 P
noncomputable def o168 (P : Params) : Obj := ⟨(.type "tuple"), none, (.seq (List.toArray []) 0), List.toArray []⟩
noncomputable def o169 (P : Params) : Obj := ⟨.none, none, (.fields (List.toArray [])), List.toArray []⟩
noncomputable def o170 (P : Params) : Obj := ⟨(.type "tuple"), none, (.seq (List.toArray [(.str (Str.ofString "self") 431), (.str (Str.ofString "a") 432)]) 0), List.toArray []⟩
noncomputable def o171 (P : Params) : Obj := ⟨(.type "tuple"), none, (.seq (List.toArray []) 0), List.toArray []⟩
noncomputable def o172B (B : List Stmt) (P : Params) : Obj := ⟨.none, none, (.func { name := (Str.ofString "set_seq1"), qualname := (Str.ofString "SequenceMatcher.set_seq1"), params := argsN (stN (bodyN (stN B 5)) 3), body := .stmts (bodyN (stN (bodyN (stN B 5)) 3)), scope := scopeN (stN (bodyN (stN B 5)) 3), globals := 0, closure := [], defaults := .none, kwdefaults := .none, doc := .none, pyModule := .none, annotations := none, code := .none, closureTuple := .none, builtins := 0 }), List.toArray []⟩
noncomputable def o172 (P : Params) : Obj := o172B pwBody P
noncomputable def o173 (P : Params) : Obj := ⟨(.type "code"), none, (.fields (List.toArray [(.str (Str.ofString "set_seq1") 428), (.str (Str.ofString "SequenceMatcher.set_seq1") 429), (.str (Str.ofString "/claim/cut.py") 430), (.int 184 0), (.int 2 0), (.int 0 0), (.int 0 0), (.int 3 0), (.ref 168), (.bool true), (.int 181 0), (.ref 169), .none, (.ref 170), (.ref 171), (.ref 172), (.int 433 0), (.int 184 0), (.str (Str.ofString "/claim/cut.py") 434)])), List.toArray []⟩
noncomputable def fd174B (B : List Stmt) : FuncData := { name := (Str.ofString "set_seq1"), qualname := (Str.ofString "SequenceMatcher.set_seq1"), params := argsN (stN (bodyN (stN B 5)) 3), body := .stmts (bodyN (stN (bodyN (stN B 5)) 3)), scope := scopeN (stN (bodyN (stN B 5)) 3), globals := 3, closure := [], defaults := .none, kwdefaults := .none, doc := (.str (docN (bodyN (stN (bodyN (stN B 5)) 3))) 435), pyModule := (.str (Str.ofString "cpy313.difflib") 194), annotations := none, code := (.ref 173), closureTuple := .none, builtins := 0 }
noncomputable def fd174 : FuncData := fd174B pwBody
noncomputable def at_SequenceMatcher_set_seq1 : Addr := 174
noncomputable def fdOf_SequenceMatcher_set_seq1 : FuncData := fd174
noncomputable def o174B (B : List Stmt) (P : Params) : Obj := ⟨(.type "function"), none, (.func (fd174B B)), List.toArray []⟩
noncomputable def o174 (P : Params) : Obj := o174B pwBody P
noncomputable def obOf_SequenceMatcher_set_seq1 (P : Params) : Obj := o174 P
noncomputable def o175 (P : Params) : Obj := ⟨(.type "tuple"), none, (.seq (List.toArray []) 0), List.toArray []⟩
noncomputable def o176 (P : Params) : Obj := ⟨.none, none, (.fields (List.toArray [])), List.toArray []⟩
noncomputable def o177 (P : Params) : Obj := ⟨(.type "tuple"), none, (.seq (List.toArray [(.str (Str.ofString "self") 440), (.str (Str.ofString "b") 441)]) 0), List.toArray []⟩
noncomputable def o178 (P : Params) : Obj := ⟨(.type "tuple"), none, (.seq (List.toArray []) 0), List.toArray []⟩
noncomputable def o179B (B : List Stmt) (P : Params) : Obj := ⟨.none, none, (.func { name := (Str.ofString "set_seq2"), qualname := (Str.ofString "SequenceMatcher.set_seq2"), params := argsN (stN (bodyN (stN B 5)) 4), body := .stmts (bodyN (stN (bodyN (stN B 5)) 4)), scope := scopeN (stN (bodyN (stN B 5)) 4), globals := 0, closure := [], defaults := .none, kwdefaults := .none, doc := .none, pyModule := .none, annotations := none, code := .none, closureTuple := .none, builtins := 0 }), List.toArray []⟩
noncomputable def o179 (P : Params) : Obj := o179B pwBody P
noncomputable def o180 (P : Params) : Obj := ⟨(.type "code"), none, (.fields (List.toArray [(.str (Str.ofString "set_seq2") 437), (.str (Str.ofString "SequenceMatcher.set_seq2") 438), (.str (Str.ofString "/claim/cut.py") 439), (.int 209 0), (.int 2 0), (.int 0 0), (.int 0 0), (.int 3 0), (.ref 175), (.bool true), (.int 181 0), (.ref 176), .none, (.ref 177), (.ref 178), (.ref 179), (.int 442 0), (.int 209 0), (.str (Str.ofString "/claim/cut.py") 443)])), List.toArray []⟩
noncomputable def fd181B (B : List Stmt) : FuncData := { name := (Str.ofString "set_seq2"), qualname := (Str.ofString "SequenceMatcher.set_seq2"), params := argsN (stN (bodyN (stN B 5)) 4), body := .stmts (bodyN (stN (bodyN (stN B 5)) 4)), scope := scopeN (stN (bodyN (stN B 5)) 4), globals := 3, closure := [], defaults := .none, kwdefaults := .none, doc := (.str (docN (bodyN (stN (bodyN (stN B 5)) 4))) 444), pyModule := (.str (Str.ofString "cpy313.difflib") 194), annotations := none, code := (.ref 180), closureTuple := .none, builtins := 0 }
noncomputable def fd181 : FuncData := fd181B pwBody
noncomputable def at_SequenceMatcher_set_seq2 : Addr := 181
noncomputable def fdOf_SequenceMatcher_set_seq2 : FuncData := fd181
noncomputable def o181B (B : List Stmt) (P : Params) : Obj := ⟨(.type "function"), none, (.func (fd181B B)), List.toArray []⟩
noncomputable def o181 (P : Params) : Obj := o181B pwBody P
noncomputable def obOf_SequenceMatcher_set_seq2 (P : Params) : Obj := o181 P
noncomputable def o182 (P : Params) : Obj := ⟨(.type "tuple"), none, (.seq (List.toArray []) 0), List.toArray []⟩
noncomputable def o183 (P : Params) : Obj := ⟨.none, none, (.fields (List.toArray [])), List.toArray []⟩
noncomputable def o184 (P : Params) : Obj := ⟨(.type "tuple"), none, (.seq (List.toArray [(.str (Str.ofString "self") 449), (.str (Str.ofString "b") 450), (.str (Str.ofString "b2j") 451), (.str (Str.ofString "i") 452), (.str (Str.ofString "elt") 453), (.str (Str.ofString "indices") 454), (.str (Str.ofString "junk") 455), (.str (Str.ofString "isjunk") 456), (.str (Str.ofString "popular") 457), (.str (Str.ofString "n") 458), (.str (Str.ofString "ntest") 459), (.str (Str.ofString "idxs") 460)]) 0), List.toArray []⟩
noncomputable def o185 (P : Params) : Obj := ⟨(.type "tuple"), none, (.seq (List.toArray []) 0), List.toArray []⟩
noncomputable def o186B (B : List Stmt) (P : Params) : Obj := ⟨.none, none, (.func { name := (Str.ofString "__chain_b"), qualname := (Str.ofString "SequenceMatcher.__chain_b"), params := argsN (stN (bodyN (stN B 5)) 5), body := .stmts (bodyN (stN (bodyN (stN B 5)) 5)), scope := scopeN (stN (bodyN (stN B 5)) 5), globals := 0, closure := [], defaults := .none, kwdefaults := .none, doc := .none, pyModule := .none, annotations := none, code := .none, closureTuple := .none, builtins := 0 }), List.toArray []⟩
noncomputable def o186 (P : Params) : Obj := o186B pwBody P
noncomputable def o187 (P : Params) : Obj := ⟨(.type "code"), none, (.fields (List.toArray [(.str (Str.ofString "__chain_b") 446), (.str (Str.ofString "SequenceMatcher.__chain_b") 447), (.str (Str.ofString "/claim/cut.py") 448), (.int 236 0), (.int 1 0), (.int 0 0), (.int 0 0), (.int 3 0), (.ref 182), (.bool true), (.int 181 0), (.ref 183), .none, (.ref 184), (.ref 185), (.ref 186), (.int 461 0), (.int 236 0), (.str (Str.ofString "/claim/cut.py") 462)])), List.toArray []⟩
noncomputable def fd188B (B : List Stmt) : FuncData := { name := (Str.ofString "__chain_b"), qualname := (Str.ofString "SequenceMatcher.__chain_b"), params := argsN (stN (bodyN (stN B 5)) 5), body := .stmts (bodyN (stN (bodyN (stN B 5)) 5)), scope := scopeN (stN (bodyN (stN B 5)) 5), globals := 3, closure := [], defaults := .none, kwdefaults := .none, doc := .none, pyModule := (.str (Str.ofString "cpy313.difflib") 194), annotations := none, code := (.ref 187), closureTuple := .none, builtins := 0 }
noncomputable def fd188 : FuncData := fd188B pwBody
noncomputable def at_SequenceMatcher_chain_b : Addr := 188
noncomputable def fdOf_SequenceMatcher_chain_b : FuncData := fd188
noncomputable def o188B (B : List Stmt) (P : Params) : Obj := ⟨(.type "function"), none, (.func (fd188B B)), List.toArray []⟩
noncomputable def o188 (P : Params) : Obj := o188B pwBody P
noncomputable def obOf_SequenceMatcher_chain_b (P : Params) : Obj := o188 P
noncomputable def o189 (P : Params) : Obj := ⟨(.type "tuple"), none, (.seq (List.toArray [(.int 0 464), .none, (.int 0 465), .none]) 0), List.toArray []⟩
noncomputable def o190 (P : Params) : Obj := ⟨(.type "tuple"), none, (.seq (List.toArray []) 0), List.toArray []⟩
noncomputable def o191 (P : Params) : Obj := ⟨.none, none, (.fields (List.toArray [])), List.toArray []⟩
noncomputable def o192 (P : Params) : Obj := ⟨(.type "tuple"), none, (.seq (List.toArray [(.str (Str.ofString "self") 469), (.str (Str.ofString "alo") 470), (.str (Str.ofString "ahi") 471), (.str (Str.ofString "blo") 472), (.str (Str.ofString "bhi") 473), (.str (Str.ofString "a") 474), (.str (Str.ofString "b") 475), (.str (Str.ofString "b2j") 476), (.str (Str.ofString "isbjunk") 477), (.str (Str.ofString "besti") 478), (.str (Str.ofString "bestj") 479), (.str (Str.ofString "bestsize") 480), (.str (Str.ofString "j2len") 481), (.str (Str.ofString "nothing") 482), (.str (Str.ofString "i") 483), (.str (Str.ofString "j2lenget") 484), (.str (Str.ofString "newj2len") 485), (.str (Str.ofString "j") 486), (.str (Str.ofString "k") 487)]) 0), List.toArray []⟩
noncomputable def o193 (P : Params) : Obj := ⟨(.type "tuple"), none, (.seq (List.toArray []) 0), List.toArray []⟩
noncomputable def o194B (B : List Stmt) (P : Params) : Obj := ⟨.none, none, (.func { name := (Str.ofString "find_longest_match"), qualname := (Str.ofString "SequenceMatcher.find_longest_match"), params := argsN (stN (bodyN (stN B 5)) 6), body := .stmts (bodyN (stN (bodyN (stN B 5)) 6)), scope := scopeN (stN (bodyN (stN B 5)) 6), globals := 0, closure := [], defaults := .none, kwdefaults := .none, doc := .none, pyModule := .none, annotations := none, code := .none, closureTuple := .none, builtins := 0 }), List.toArray []⟩
noncomputable def o194 (P : Params) : Obj := o194B pwBody P
noncomputable def o195 (P : Params) : Obj := ⟨(.type "code"), none, (.fields (List.toArray [(.str (Str.ofString "find_longest_match") 466), (.str (Str.ofString "SequenceMatcher.find_longest_match") 467), (.str (Str.ofString "/claim/cut.py") 468), (.int 260 0), (.int 5 0), (.int 0 0), (.int 0 0), (.int 3 0), (.ref 190), (.bool true), (.int 181 0), (.ref 191), .none, (.ref 192), (.ref 193), (.ref 194), (.int 488 0), (.int 260 0), (.str (Str.ofString "/claim/cut.py") 489)])), List.toArray []⟩
noncomputable def fd196B (B : List Stmt) : FuncData := { name := (Str.ofString "find_longest_match"), qualname := (Str.ofString "SequenceMatcher.find_longest_match"), params := argsN (stN (bodyN (stN B 5)) 6), body := .stmts (bodyN (stN (bodyN (stN B 5)) 6)), scope := scopeN (stN (bodyN (stN B 5)) 6), globals := 3, closure := [], defaults := (.ref 189), kwdefaults := .none, doc := (.str (docN (bodyN (stN (bodyN (stN B 5)) 6))) 490), pyModule := (.str (Str.ofString "cpy313.difflib") 194), annotations := none, code := (.ref 195), closureTuple := .none, builtins := 0 }
noncomputable def fd196 : FuncData := fd196B pwBody
noncomputable def at_SequenceMatcher_find_longest_match : Addr := 196
noncomputable def fdOf_SequenceMatcher_find_longest_match : FuncData := fd196
noncomputable def o196B (B : List Stmt) (P : Params) : Obj := ⟨(.type "function"), none, (.func (fd196B B)), List.toArray []⟩
noncomputable def o196 (P : Params) : Obj := o196B pwBody P
noncomputable def obOf_SequenceMatcher_find_longest_match (P : Params) : Obj := o196 P
noncomputable def o197 (P : Params) : Obj := ⟨(.type "tuple"), none, (.seq (List.toArray []) 0), List.toArray []⟩
noncomputable def o198 (P : Params) : Obj := ⟨.none, none, (.fields (List.toArray [])), List.toArray []⟩
noncomputable def o199 (P : Params) : Obj := ⟨(.type "tuple"), none, (.seq (List.toArray [(.str (Str.ofString "self") 495), (.str (Str.ofString "la") 496), (.str (Str.ofString "lb") 497), (.str (Str.ofString "queue") 498), (.str (Str.ofString "matching_blocks") 499), (.str (Str.ofString "alo") 500), (.str (Str.ofString "ahi") 501), (.str (Str.ofString "blo") 502), (.str (Str.ofString "bhi") 503), (.str (Str.ofString "i") 504), (.str (Str.ofString "j") 505), (.str (Str.ofString "k") 506), (.str (Str.ofString "x") 507), (.str (Str.ofString "i1") 508), (.str (Str.ofString "j1") 509), (.str (Str.ofString "k1") 510), (.str (Str.ofString "non_adjacent") 511), (.str (Str.ofString "i2") 512), (.str (Str.ofString "j2") 513), (.str (Str.ofString "k2") 514)]) 0), List.toArray []⟩
noncomputable def o200 (P : Params) : Obj := ⟨(.type "tuple"), none, (.seq (List.toArray []) 0), List.toArray []⟩
noncomputable def o201B (B : List Stmt) (P : Params) : Obj := ⟨.none, none, (.func { name := (Str.ofString "get_matching_blocks"), qualname := (Str.ofString "SequenceMatcher.get_matching_blocks"), params := argsN (stN (bodyN (stN B 5)) 7), body := .stmts (bodyN (stN (bodyN (stN B 5)) 7)), scope := scopeN (stN (bodyN (stN B 5)) 7), globals := 0, closure := [], defaults := .none, kwdefaults := .none, doc := .none, pyModule := .none, annotations := none, code := .none, closureTuple := .none, builtins := 0 }), List.toArray []⟩
noncomputable def o201 (P : Params) : Obj := o201B pwBody P
noncomputable def o202 (P : Params) : Obj := ⟨(.type "code"), none, (.fields (List.toArray [(.str (Str.ofString "get_matching_blocks") 492), (.str (Str.ofString "SequenceMatcher.get_matching_blocks") 493), (.str (Str.ofString "/claim/cut.py") 494), (.int 335 0), (.int 1 0), (.int 0 0), (.int 0 0), (.int 3 0), (.ref 197), (.bool true), (.int 181 0), (.ref 198), .none, (.ref 199), (.ref 200), (.ref 201), (.int 515 0), (.int 335 0), (.str (Str.ofString "/claim/cut.py") 516)])), List.toArray []⟩
noncomputable def fd203B (B : List Stmt) : FuncData := { name := (Str.ofString "get_matching_blocks"), qualname := (Str.ofString "SequenceMatcher.get_matching_blocks"), params := argsN (stN (bodyN (stN B 5)) 7), body := .stmts (bodyN (stN (bodyN (stN B 5)) 7)), scope := scopeN (stN (bodyN (stN B 5)) 7), globals := 3, closure := [], defaults := .none, kwdefaults := .none, doc := (.str (docN (bodyN (stN (bodyN (stN B 5)) 7))) 517), pyModule := (.str (Str.ofString "cpy313.difflib") 194), annotations := none, code := (.ref 202), closureTuple := .none, builtins := 0 }
noncomputable def fd203 : FuncData := fd203B pwBody
noncomputable def at_SequenceMatcher_get_matching_blocks : Addr := 203
noncomputable def fdOf_SequenceMatcher_get_matching_blocks : FuncData := fd203
noncomputable def o203B (B : List Stmt) (P : Params) : Obj := ⟨(.type "function"), none, (.func (fd203B B)), List.toArray []⟩
noncomputable def o203 (P : Params) : Obj := o203B pwBody P
noncomputable def obOf_SequenceMatcher_get_matching_blocks (P : Params) : Obj := o203 P
noncomputable def o204 (P : Params) : Obj := ⟨(.type "tuple"), none, (.seq (List.toArray []) 0), List.toArray []⟩
noncomputable def o205 (P : Params) : Obj := ⟨.none, none, (.fields (List.toArray [])), List.toArray []⟩
noncomputable def o206 (P : Params) : Obj := ⟨(.type "tuple"), none, (.seq (List.toArray [(.str (Str.ofString "self") 522)]) 0), List.toArray []⟩
noncomputable def o207 (P : Params) : Obj := ⟨(.type "tuple"), none, (.seq (List.toArray []) 0), List.toArray []⟩
noncomputable def o208B (B : List Stmt) (P : Params) : Obj := ⟨.none, none, (.func { name := (Str.ofString "get_opcodes"), qualname := (Str.ofString "SequenceMatcher.get_opcodes"), params := argsN (stN (bodyN (stN B 5)) 8), body := .stmts (bodyN (stN (bodyN (stN B 5)) 8)), scope := scopeN (stN (bodyN (stN B 5)) 8), globals := 0, closure := [], defaults := .none, kwdefaults := .none, doc := .none, pyModule := .none, annotations := none, code := .none, closureTuple := .none, builtins := 0 }), List.toArray []⟩
noncomputable def o208 (P : Params) : Obj := o208B pwBody P
noncomputable def o209 (P : Params) : Obj := ⟨(.type "code"), none, (.fields (List.toArray [(.str (Str.ofString "get_opcodes") 519), (.str (Str.ofString "SequenceMatcher.get_opcodes") 520), (.str (Str.ofString "/claim/cut.py") 521), (.int 383 0), (.int 1 0), (.int 0 0), (.int 0 0), (.int 3 0), (.ref 204), (.bool true), (.int 181 0), (.ref 205), .none, (.ref 206), (.ref 207), (.ref 208), (.int 523 0), (.int 383 0), (.str (Str.ofString "/claim/cut.py") 524)])), List.toArray []⟩
noncomputable def fd210B (B : List Stmt) : FuncData := { name := (Str.ofString "get_opcodes"), qualname := (Str.ofString "SequenceMatcher.get_opcodes"), params := argsN (stN (bodyN (stN B 5)) 8), body := .stmts (bodyN (stN (bodyN (stN B 5)) 8)), scope := scopeN (stN (bodyN (stN B 5)) 8), globals := 3, closure := [], defaults := .none, kwdefaults := .none, doc := .none, pyModule := (.str (Str.ofString "cpy313.difflib") 194), annotations := none, code := (.ref 209), closureTuple := .none, builtins := 0 }
noncomputable def fd210 : FuncData := fd210B pwBody
noncomputable def at_SequenceMatcher_get_opcodes : Addr := 210
noncomputable def fdOf_SequenceMatcher_get_opcodes : FuncData := fd210
noncomputable def o210B (B : List Stmt) (P : Params) : Obj := ⟨(.type "function"), none, (.func (fd210B B)), List.toArray []⟩
noncomputable def o210 (P : Params) : Obj := o210B pwBody P
noncomputable def obOf_SequenceMatcher_get_opcodes (P : Params) : Obj := o210 P
noncomputable def o211 (P : Params) : Obj := ⟨(.type "tuple"), none, (.seq (List.toArray [(.int 3 526)]) 0), List.toArray []⟩
noncomputable def o212 (P : Params) : Obj := ⟨(.type "tuple"), none, (.seq (List.toArray []) 0), List.toArray []⟩
noncomputable def o213 (P : Params) : Obj := ⟨.none, none, (.fields (List.toArray [])), List.toArray []⟩
noncomputable def o214 (P : Params) : Obj := ⟨(.type "tuple"), none, (.seq (List.toArray [(.str (Str.ofString "self") 530), (.str (Str.ofString "n") 531)]) 0), List.toArray []⟩
noncomputable def o215 (P : Params) : Obj := ⟨(.type "tuple"), none, (.seq (List.toArray []) 0), List.toArray []⟩
noncomputable def o216B (B : List Stmt) (P : Params) : Obj := ⟨.none, none, (.func { name := (Str.ofString "get_grouped_opcodes"), qualname := (Str.ofString "SequenceMatcher.get_grouped_opcodes"), params := argsN (stN (bodyN (stN B 5)) 9), body := .stmts (bodyN (stN (bodyN (stN B 5)) 9)), scope := scopeN (stN (bodyN (stN B 5)) 9), globals := 0, closure := [], defaults := .none, kwdefaults := .none, doc := .none, pyModule := .none, annotations := none, code := .none, closureTuple := .none, builtins := 0 }), List.toArray []⟩
noncomputable def o216 (P : Params) : Obj := o216B pwBody P
noncomputable def o217 (P : Params) : Obj := ⟨(.type "code"), none, (.fields (List.toArray [(.str (Str.ofString "get_grouped_opcodes") 527), (.str (Str.ofString "SequenceMatcher.get_grouped_opcodes") 528), (.str (Str.ofString "/claim/cut.py") 529), (.int 386 0), (.int 2 0), (.int 0 0), (.int 0 0), (.int 3 0), (.ref 212), (.bool true), (.int 181 0), (.ref 213), .none, (.ref 214), (.ref 215), (.ref 216), (.int 532 0), (.int 386 0), (.str (Str.ofString "/claim/cut.py") 533)])), List.toArray []⟩
noncomputable def fd218B (B : List Stmt) : FuncData := { name := (Str.ofString "get_grouped_opcodes"), qualname := (Str.ofString "SequenceMatcher.get_grouped_opcodes"), params := argsN (stN (bodyN (stN B 5)) 9), body := .stmts (bodyN (stN (bodyN (stN B 5)) 9)), scope := scopeN (stN (bodyN (stN B 5)) 9), globals := 3, closure := [], defaults := (.ref 211), kwdefaults := .none, doc := .none, pyModule := (.str (Str.ofString "cpy313.difflib") 194), annotations := none, code := (.ref 217), closureTuple := .none, builtins := 0 }
noncomputable def fd218 : FuncData := fd218B pwBody
noncomputable def at_SequenceMatcher_get_grouped_opcodes : Addr := 218
noncomputable def fdOf_SequenceMatcher_get_grouped_opcodes : FuncData := fd218
noncomputable def o218B (B : List Stmt) (P : Params) : Obj := ⟨(.type "function"), none, (.func (fd218B B)), List.toArray []⟩
noncomputable def o218 (P : Params) : Obj := o218B pwBody P
noncomputable def obOf_SequenceMatcher_get_grouped_opcodes (P : Params) : Obj := o218 P
noncomputable def o219 (P : Params) : Obj := ⟨(.type "tuple"), none, (.seq (List.toArray []) 0), List.toArray []⟩
noncomputable def o220 (P : Params) : Obj := ⟨.none, none, (.fields (List.toArray [])), List.toArray []⟩
noncomputable def o221 (P : Params) : Obj := ⟨(.type "tuple"), none, (.seq (List.toArray [(.str (Str.ofString "self") 538), (.str (Str.ofString "matches") 539)]) 0), List.toArray []⟩
noncomputable def o222 (P : Params) : Obj := ⟨(.type "tuple"), none, (.seq (List.toArray []) 0), List.toArray []⟩
noncomputable def o223B (B : List Stmt) (P : Params) : Obj := ⟨.none, none, (.func { name := (Str.ofString "ratio"), qualname := (Str.ofString "SequenceMatcher.ratio"), params := argsN (stN (bodyN (stN B 5)) 10), body := .stmts (bodyN (stN (bodyN (stN B 5)) 10)), scope := scopeN (stN (bodyN (stN B 5)) 10), globals := 0, closure := [], defaults := .none, kwdefaults := .none, doc := .none, pyModule := .none, annotations := none, code := .none, closureTuple := .none, builtins := 0 }), List.toArray []⟩
noncomputable def o223 (P : Params) : Obj := o223B pwBody P
noncomputable def o224 (P : Params) : Obj := ⟨(.type "code"), none, (.fields (List.toArray [(.str (Str.ofString "ratio") 535), (.str (Str.ofString "SequenceMatcher.ratio") 536), (.str (Str.ofString "/claim/cut.py") 537), (.int 389 0), (.int 1 0), (.int 0 0), (.int 0 0), (.int 3 0), (.ref 219), (.bool true), (.int 181 0), (.ref 220), .none, (.ref 221), (.ref 222), (.ref 223), (.int 540 0), (.int 389 0), (.str (Str.ofString "/claim/cut.py") 541)])), List.toArray []⟩
noncomputable def fd225B (B : List Stmt) : FuncData := { name := (Str.ofString "ratio"), qualname := (Str.ofString "SequenceMatcher.ratio"), params := argsN (stN (bodyN (stN B 5)) 10), body := .stmts (bodyN (stN (bodyN (stN B 5)) 10)), scope := scopeN (stN (bodyN (stN B 5)) 10), globals := 3, closure := [], defaults := .none, kwdefaults := .none, doc := (.str (docN (bodyN (stN (bodyN (stN B 5)) 10))) 542), pyModule := (.str (Str.ofString "cpy313.difflib") 194), annotations := none, code := (.ref 224), closureTuple := .none, builtins := 0 }
noncomputable def fd225 : FuncData := fd225B pwBody
noncomputable def at_SequenceMatcher_ratio : Addr := 225
noncomputable def fdOf_SequenceMatcher_ratio : FuncData := fd225
noncomputable def o225B (B : List Stmt) (P : Params) : Obj := ⟨(.type "function"), none, (.func (fd225B B)), List.toArray []⟩
noncomputable def o225 (P : Params) : Obj := o225B pwBody P
noncomputable def obOf_SequenceMatcher_ratio (P : Params) : Obj := o225 P
noncomputable def o226 (P : Params) : Obj := ⟨(.type "tuple"), none, (.seq (List.toArray []) 0), List.toArray []⟩
noncomputable def o227 (P : Params) : Obj := ⟨.none, none, (.fields (List.toArray [])), List.toArray []⟩
noncomputable def o228 (P : Params) : Obj := ⟨(.type "tuple"), none, (.seq (List.toArray [(.str (Str.ofString "self") 547), (.str (Str.ofString "fullbcount") 548), (.str (Str.ofString "elt") 549), (.str (Str.ofString "avail") 550), (.str (Str.ofString "availhas") 551), (.str (Str.ofString "matches") 552), (.str (Str.ofString "numb") 553)]) 0), List.toArray []⟩
noncomputable def o229 (P : Params) : Obj := ⟨(.type "tuple"), none, (.seq (List.toArray []) 0), List.toArray []⟩
noncomputable def o230B (B : List Stmt) (P : Params) : Obj := ⟨.none, none, (.func { name := (Str.ofString "quick_ratio"), qualname := (Str.ofString "SequenceMatcher.quick_ratio"), params := argsN (stN (bodyN (stN B 5)) 11), body := .stmts (bodyN (stN (bodyN (stN B 5)) 11)), scope := scopeN (stN (bodyN (stN B 5)) 11), globals := 0, closure := [], defaults := .none, kwdefaults := .none, doc := .none, pyModule := .none, annotations := none, code := .none, closureTuple := .none, builtins := 0 }), List.toArray []⟩
noncomputable def o230 (P : Params) : Obj := o230B pwBody P
noncomputable def o231 (P : Params) : Obj := ⟨(.type "code"), none, (.fields (List.toArray [(.str (Str.ofString "quick_ratio") 544), (.str (Str.ofString "SequenceMatcher.quick_ratio") 545), (.str (Str.ofString "/claim/cut.py") 546), (.int 413 0), (.int 1 0), (.int 0 0), (.int 0 0), (.int 3 0), (.ref 226), (.bool true), (.int 181 0), (.ref 227), .none, (.ref 228), (.ref 229), (.ref 230), (.int 554 0), (.int 413 0), (.str (Str.ofString "/claim/cut.py") 555)])), List.toArray []⟩
noncomputable def fd232B (B : List Stmt) : FuncData := { name := (Str.ofString "quick_ratio"), qualname := (Str.ofString "SequenceMatcher.quick_ratio"), params := argsN (stN (bodyN (stN B 5)) 11), body := .stmts (bodyN (stN (bodyN (stN B 5)) 11)), scope := scopeN (stN (bodyN (stN B 5)) 11), globals := 3, closure := [], defaults := .none, kwdefaults := .none, doc := (.str (docN (bodyN (stN (bodyN (stN B 5)) 11))) 556), pyModule := (.str (Str.ofString "cpy313.difflib") 194), annotations := none, code := (.ref 231), closureTuple := .none, builtins := 0 }
noncomputable def fd232 : FuncData := fd232B pwBody
noncomputable def at_SequenceMatcher_quick_ratio : Addr := 232
noncomputable def fdOf_SequenceMatcher_quick_ratio : FuncData := fd232
noncomputable def o232B (B : List Stmt) (P : Params) : Obj := ⟨(.type "function"), none, (.func (fd232B B)), List.toArray []⟩
noncomputable def o232 (P : Params) : Obj := o232B pwBody P
noncomputable def obOf_SequenceMatcher_quick_ratio (P : Params) : Obj := o232 P
noncomputable def o233 (P : Params) : Obj := ⟨(.type "tuple"), none, (.seq (List.toArray []) 0), List.toArray []⟩
noncomputable def o234 (P : Params) : Obj := ⟨.none, none, (.fields (List.toArray [])), List.toArray []⟩
noncomputable def o235 (P : Params) : Obj := ⟨(.type "tuple"), none, (.seq (List.toArray [(.str (Str.ofString "self") 561)]) 0), List.toArray []⟩
noncomputable def o236 (P : Params) : Obj := ⟨(.type "tuple"), none, (.seq (List.toArray []) 0), List.toArray []⟩
noncomputable def o237B (B : List Stmt) (P : Params) : Obj := ⟨.none, none, (.func { name := (Str.ofString "real_quick_ratio"), qualname := (Str.ofString "SequenceMatcher.real_quick_ratio"), params := argsN (stN (bodyN (stN B 5)) 12), body := .stmts (bodyN (stN (bodyN (stN B 5)) 12)), scope := scopeN (stN (bodyN (stN B 5)) 12), globals := 0, closure := [], defaults := .none, kwdefaults := .none, doc := .none, pyModule := .none, annotations := none, code := .none, closureTuple := .none, builtins := 0 }), List.toArray []⟩
noncomputable def o237 (P : Params) : Obj := o237B pwBody P
noncomputable def o238 (P : Params) : Obj := ⟨(.type "code"), none, (.fields (List.toArray [(.str (Str.ofString "real_quick_ratio") 558), (.str (Str.ofString "SequenceMatcher.real_quick_ratio") 559), (.str (Str.ofString "/claim/cut.py") 560), (.int 436 0), (.int 1 0), (.int 0 0), (.int 0 0), (.int 3 0), (.ref 233), (.bool true), (.int 181 0), (.ref 234), .none, (.ref 235), (.ref 236), (.ref 237), (.int 562 0), (.int 436 0), (.str (Str.ofString "/claim/cut.py") 563)])), List.toArray []⟩
noncomputable def fd239B (B : List Stmt) : FuncData := { name := (Str.ofString "real_quick_ratio"), qualname := (Str.ofString "SequenceMatcher.real_quick_ratio"), params := argsN (stN (bodyN (stN B 5)) 12), body := .stmts (bodyN (stN (bodyN (stN B 5)) 12)), scope := scopeN (stN (bodyN (stN B 5)) 12), globals := 3, closure := [], defaults := .none, kwdefaults := .none, doc := .none, pyModule := (.str (Str.ofString "cpy313.difflib") 194), annotations := none, code := (.ref 238), closureTuple := .none, builtins := 0 }
noncomputable def fd239 : FuncData := fd239B pwBody
noncomputable def at_SequenceMatcher_real_quick_ratio : Addr := 239
noncomputable def fdOf_SequenceMatcher_real_quick_ratio : FuncData := fd239
noncomputable def o239B (B : List Stmt) (P : Params) : Obj := ⟨(.type "function"), none, (.func (fd239B B)), List.toArray []⟩
noncomputable def o239 (P : Params) : Obj := o239B pwBody P
noncomputable def obOf_SequenceMatcher_real_quick_ratio (P : Params) : Obj := o239 P
noncomputable def o240 (P : Params) : Obj := ⟨(.type "tuple"), none, (.seq (List.toArray [(.str (Str.ofString "a") 565), (.str (Str.ofString "autojunk") 566), (.str (Str.ofString "b") 567), (.str (Str.ofString "b2j") 568), (.str (Str.ofString "bjunk") 569), (.str (Str.ofString "bpopular") 570), (.str (Str.ofString "fullbcount") 571), (.str (Str.ofString "isjunk") 572), (.str (Str.ofString "matching_blocks") 573), (.str (Str.ofString "opcodes") 574)]) 0), List.toArray []⟩
noncomputable def o241B (B : List Stmt) (P : Params) : Obj := ⟨(.type "dict"), none, (.dict (List.toArray [⟨PyData.keyHash P (Str.ofString "__module__"), (.str (Str.ofString "__module__") 396), (.str (Str.ofString "cpy313.difflib") 194)⟩, ⟨PyData.keyHash P (Str.ofString "__firstlineno__"), (.str (Str.ofString "__firstlineno__") 400), (.int 70 399)⟩, ⟨PyData.keyHash P (Str.ofString "__doc__"), (.str (Str.ofString "__doc__") 402), (.str (docN (bodyN (stN B 5))) 401)⟩, ⟨PyData.keyHash P (Str.ofString "__init__"), (.str (Str.ofString "__init__") 417), (.ref 160)⟩, ⟨PyData.keyHash P (Str.ofString "set_seqs"), (.str (Str.ofString "set_seqs") 427), (.ref 167)⟩, ⟨PyData.keyHash P (Str.ofString "set_seq1"), (.str (Str.ofString "set_seq1") 436), (.ref 174)⟩, ⟨PyData.keyHash P (Str.ofString "set_seq2"), (.str (Str.ofString "set_seq2") 445), (.ref 181)⟩, ⟨PyData.keyHash P (Str.ofString "_SequenceMatcher__chain_b"), (.str (Str.ofString "_SequenceMatcher__chain_b") 463), (.ref 188)⟩, ⟨PyData.keyHash P (Str.ofString "find_longest_match"), (.str (Str.ofString "find_longest_match") 491), (.ref 196)⟩, ⟨PyData.keyHash P (Str.ofString "get_matching_blocks"), (.str (Str.ofString "get_matching_blocks") 518), (.ref 203)⟩, ⟨PyData.keyHash P (Str.ofString "get_opcodes"), (.str (Str.ofString "get_opcodes") 525), (.ref 210)⟩, ⟨PyData.keyHash P (Str.ofString "get_grouped_opcodes"), (.str (Str.ofString "get_grouped_opcodes") 534), (.ref 218)⟩, ⟨PyData.keyHash P (Str.ofString "ratio"), (.str (Str.ofString "ratio") 543), (.ref 225)⟩, ⟨PyData.keyHash P (Str.ofString "quick_ratio"), (.str (Str.ofString "quick_ratio") 557), (.ref 232)⟩, ⟨PyData.keyHash P (Str.ofString "real_quick_ratio"), (.str (Str.ofString "real_quick_ratio") 564), (.ref 239)⟩, ⟨PyData.keyHash P (Str.ofString "__static_attributes__"), (.str (Str.ofString "__static_attributes__") 575), (.ref 240)⟩, ⟨PyData.keyHash P (Str.ofString "__dict__"), (.str (Str.ofString "__dict__") 577), (.ref 243)⟩, ⟨PyData.keyHash P (Str.ofString "__weakref__"), (.str (Str.ofString "__weakref__") 579), (.ref 244)⟩]) 3), List.toArray []⟩
noncomputable def o241 (P : Params) : Obj := o241B pwBody P
noncomputable def at_SequenceMatcher : Addr := 242
noncomputable def o242 (P : Params) : Obj := ⟨(.type "type"), none, (.cls { name := (Str.ofString "SequenceMatcher"), bases := [(.type "object")], mro := [(.ref 242), (.type "object")], ns := 241, qualname := (Str.ofString "SequenceMatcher"), hasDict := true, slotNames := [], subclasses := [], abstract := false, collection := none, hasDel := false }), List.toArray [none, none, (some (.str (Str.ofString "SequenceMatcher") 389)), (some (.str (Str.ofString "SequenceMatcher") 397)), (some (.builtin "object.__new__")), (some (.bool true))]⟩
noncomputable def o243 (P : Params) : Obj := ⟨(.type "getset_descriptor"), none, (.fields (List.toArray [(.str (Str.ofString "__dict__") 576), (.ref 242), (.builtin "function.__dict__"), (.builtin "function.__dict__#set")])), List.toArray []⟩
noncomputable def o244 (P : Params) : Obj := ⟨(.type "getset_descriptor"), none, (.fields (List.toArray [(.str (Str.ofString "__weakref__") 578), (.ref 242), (.builtin "ExceptionGroup.__weakref__"), .none])), List.toArray []⟩
noncomputable def o245 (P : Params) : Obj := ⟨(.type "super"), none, (.fields (List.toArray [(.ref 242), (.ref 242), (.ref 242)])), List.toArray []⟩
noncomputable def o246 (P : Params) : Obj := ⟨(.type "builtin_function_or_method"), none, (.fields (List.toArray [(.builtin "object.__init_subclass__"), (.ref 242)])), List.toArray []⟩
noncomputable def o247 (P : Params) : Obj := ⟨(.type "tuple"), none, (.seq (List.toArray []) 0), List.toArray []⟩
noncomputable def o248 (P : Params) : Obj := ⟨.none, none, (.fields (List.toArray [])), List.toArray []⟩
noncomputable def o249 (P : Params) : Obj := ⟨(.type "tuple"), none, (.seq (List.toArray [(.str (Str.ofString "script") 587), (.str (Str.ofString "lists") 588), (.str (Str.ofString "x") 589)]) 0), List.toArray []⟩
noncomputable def o250 (P : Params) : Obj := ⟨(.type "tuple"), none, (.seq (List.toArray []) 0), List.toArray []⟩
noncomputable def o251B (B : List Stmt) (P : Params) : Obj := ⟨.none, none, (.func { name := (Str.ofString "_law_lists"), qualname := (Str.ofString "_law_lists"), params := argsN (stN B 7), body := .stmts (bodyN (stN B 7)), scope := scopeN (stN B 7), globals := 0, closure := [], defaults := .none, kwdefaults := .none, doc := .none, pyModule := .none, annotations := none, code := .none, closureTuple := .none, builtins := 0 }), List.toArray []⟩
noncomputable def o251 (P : Params) : Obj := o251B pwBody P
noncomputable def o252 (P : Params) : Obj := ⟨(.type "code"), none, (.fields (List.toArray [(.str (Str.ofString "_law_lists") 584), (.str (Str.ofString "_law_lists") 585), (.str (Str.ofString "/claim/cut.py") 586), (.int 439 0), (.int 1 0), (.int 0 0), (.int 0 0), (.int 3 0), (.ref 247), (.bool true), (.int 181 0), (.ref 248), .none, (.ref 249), (.ref 250), (.ref 251), (.int 590 0), (.int 439 0), (.str (Str.ofString "/claim/cut.py") 591)])), List.toArray []⟩
noncomputable def fd253B (B : List Stmt) : FuncData := { name := (Str.ofString "_law_lists"), qualname := (Str.ofString "_law_lists"), params := argsN (stN B 7), body := .stmts (bodyN (stN B 7)), scope := scopeN (stN B 7), globals := 3, closure := [], defaults := .none, kwdefaults := .none, doc := .none, pyModule := (.str (Str.ofString "law_dm0052_08") 582), annotations := none, code := (.ref 252), closureTuple := .none, builtins := 0 }
noncomputable def fd253 : FuncData := fd253B pwBody
noncomputable def at_law_lists : Addr := 253
noncomputable def fdOf_law_lists : FuncData := fd253
noncomputable def o253B (B : List Stmt) (P : Params) : Obj := ⟨(.type "function"), none, (.func (fd253B B)), List.toArray []⟩
noncomputable def o253 (P : Params) : Obj := o253B pwBody P
noncomputable def obOf_law_lists (P : Params) : Obj := o253 P
noncomputable def o254 (P : Params) : Obj := ⟨(.type "tuple"), none, (.seq (List.toArray []) 0), List.toArray []⟩
noncomputable def o255 (P : Params) : Obj := ⟨.none, none, (.fields (List.toArray [])), List.toArray []⟩
noncomputable def o256 (P : Params) : Obj := ⟨(.type "tuple"), none, (.seq (List.toArray [(.str (Str.ofString "matcher") 596), (.str (Str.ofString "rows") 597), (.str (Str.ofString "asked") 598), (.str (Str.ofString "gaps") 599), (.str (Str.ofString "row") 600), (.str (Str.ofString "told") 601), (.str (Str.ofString "whole") 602), (.str (Str.ofString "gap") 603), (.str (Str.ofString "common") 604)]) 0), List.toArray []⟩
noncomputable def o257 (P : Params) : Obj := ⟨(.type "tuple"), none, (.seq (List.toArray []) 0), List.toArray []⟩
noncomputable def o258B (B : List Stmt) (P : Params) : Obj := ⟨.none, none, (.func { name := (Str.ofString "_law_gaps"), qualname := (Str.ofString "_law_gaps"), params := argsN (stN B 8), body := .stmts (bodyN (stN B 8)), scope := scopeN (stN B 8), globals := 0, closure := [], defaults := .none, kwdefaults := .none, doc := .none, pyModule := .none, annotations := none, code := .none, closureTuple := .none, builtins := 0 }), List.toArray []⟩
noncomputable def o258 (P : Params) : Obj := o258B pwBody P
noncomputable def o259 (P : Params) : Obj := ⟨(.type "code"), none, (.fields (List.toArray [(.str (Str.ofString "_law_gaps") 593), (.str (Str.ofString "_law_gaps") 594), (.str (Str.ofString "/claim/cut.py") 595), (.int 444 0), (.int 3 0), (.int 0 0), (.int 0 0), (.int 3 0), (.ref 254), (.bool true), (.int 181 0), (.ref 255), .none, (.ref 256), (.ref 257), (.ref 258), (.int 605 0), (.int 444 0), (.str (Str.ofString "/claim/cut.py") 606)])), List.toArray []⟩
noncomputable def fd260B (B : List Stmt) : FuncData := { name := (Str.ofString "_law_gaps"), qualname := (Str.ofString "_law_gaps"), params := argsN (stN B 8), body := .stmts (bodyN (stN B 8)), scope := scopeN (stN B 8), globals := 3, closure := [], defaults := .none, kwdefaults := .none, doc := .none, pyModule := (.str (Str.ofString "law_dm0052_08") 582), annotations := none, code := (.ref 259), closureTuple := .none, builtins := 0 }
noncomputable def fd260 : FuncData := fd260B pwBody
noncomputable def at_law_gaps : Addr := 260
noncomputable def fdOf_law_gaps : FuncData := fd260
noncomputable def o260B (B : List Stmt) (P : Params) : Obj := ⟨(.type "function"), none, (.func (fd260B B)), List.toArray []⟩
noncomputable def o260 (P : Params) : Obj := o260B pwBody P
noncomputable def obOf_law_gaps (P : Params) : Obj := o260 P
noncomputable def o261 (P : Params) : Obj := ⟨(.type "tuple"), none, (.seq (List.toArray []) 0), List.toArray []⟩
noncomputable def o262 (P : Params) : Obj := ⟨.none, none, (.fields (List.toArray [])), List.toArray []⟩
noncomputable def o263 (P : Params) : Obj := ⟨(.type "tuple"), none, (.seq (List.toArray [(.str (Str.ofString "one") 611), (.str (Str.ofString "other") 612), (.str (Str.ofString "p") 613), (.str (Str.ofString "q") 614)]) 0), List.toArray []⟩
noncomputable def o264 (P : Params) : Obj := ⟨(.type "tuple"), none, (.seq (List.toArray []) 0), List.toArray []⟩
noncomputable def o265B (B : List Stmt) (P : Params) : Obj := ⟨.none, none, (.func { name := (Str.ofString "_law_differ"), qualname := (Str.ofString "_law_differ"), params := argsN (stN B 9), body := .stmts (bodyN (stN B 9)), scope := scopeN (stN B 9), globals := 0, closure := [], defaults := .none, kwdefaults := .none, doc := .none, pyModule := .none, annotations := none, code := .none, closureTuple := .none, builtins := 0 }), List.toArray []⟩
noncomputable def o265 (P : Params) : Obj := o265B pwBody P
noncomputable def o266 (P : Params) : Obj := ⟨(.type "code"), none, (.fields (List.toArray [(.str (Str.ofString "_law_differ") 608), (.str (Str.ofString "_law_differ") 609), (.str (Str.ofString "/claim/cut.py") 610), (.int 457 0), (.int 4 0), (.int 0 0), (.int 0 0), (.int 3 0), (.ref 261), (.bool true), (.int 181 0), (.ref 262), .none, (.ref 263), (.ref 264), (.ref 265), (.int 615 0), (.int 457 0), (.str (Str.ofString "/claim/cut.py") 616)])), List.toArray []⟩
noncomputable def fd267B (B : List Stmt) : FuncData := { name := (Str.ofString "_law_differ"), qualname := (Str.ofString "_law_differ"), params := argsN (stN B 9), body := .stmts (bodyN (stN B 9)), scope := scopeN (stN B 9), globals := 3, closure := [], defaults := .none, kwdefaults := .none, doc := .none, pyModule := (.str (Str.ofString "law_dm0052_08") 582), annotations := none, code := (.ref 266), closureTuple := .none, builtins := 0 }
noncomputable def fd267 : FuncData := fd267B pwBody
noncomputable def at_law_differ : Addr := 267
noncomputable def fdOf_law_differ : FuncData := fd267
noncomputable def o267B (B : List Stmt) (P : Params) : Obj := ⟨(.type "function"), none, (.func (fd267B B)), List.toArray []⟩
noncomputable def o267 (P : Params) : Obj := o267B pwBody P
noncomputable def obOf_law_differ (P : Params) : Obj := o267 P
noncomputable def o268 (P : Params) : Obj := ⟨(.type "tuple"), none, (.seq (List.toArray []) 0), List.toArray []⟩
noncomputable def o269 (P : Params) : Obj := ⟨.none, none, (.fields (List.toArray [])), List.toArray []⟩
noncomputable def o270B (B : List Stmt) (P : Params) : Obj := ⟨.none, none, (.func { name := (Str.ofString "_law_found"), qualname := (Str.ofString "_law_found"), params := argsN (stN B 10), body := .stmts (bodyN (stN B 10)), scope := scopeN (stN B 10), globals := 0, closure := [], defaults := .none, kwdefaults := .none, doc := .none, pyModule := .none, annotations := none, code := .none, closureTuple := .none, builtins := 0 }), List.toArray []⟩
noncomputable def o270 (P : Params) : Obj := o270B pwBody P
noncomputable def o271 (P : Params) : Obj := ⟨(.type "code"), none, (.fields (List.toArray [(.str (Str.ofString "_law_found") 618), (.str (Str.ofString "_law_found") 619), (.str (Str.ofString "/claim/cut.py") 620), (.int 459 0), (.int 6 0), (.int 0 0), (.int 0 0), (.int 3 0), (.ref 268), (.bool true), (.int 181 0), (.ref 269), .none, .none, .none, (.ref 270), (.int 621 0), (.int 459 0), (.str (Str.ofString "/claim/cut.py") 622)])), List.toArray []⟩
noncomputable def fd272B (B : List Stmt) : FuncData := { name := (Str.ofString "_law_found"), qualname := (Str.ofString "_law_found"), params := argsN (stN B 10), body := .stmts (bodyN (stN B 10)), scope := scopeN (stN B 10), globals := 3, closure := [], defaults := .none, kwdefaults := .none, doc := .none, pyModule := (.str (Str.ofString "law_dm0052_08") 582), annotations := none, code := (.ref 271), closureTuple := .none, builtins := 0 }
noncomputable def fd272 : FuncData := fd272B pwBody
noncomputable def at_law_found : Addr := 272
noncomputable def fdOf_law_found : FuncData := fd272
noncomputable def o272B (B : List Stmt) (P : Params) : Obj := ⟨(.type "function"), none, (.func (fd272B B)), List.toArray []⟩
noncomputable def o272 (P : Params) : Obj := o272B pwBody P
noncomputable def obOf_law_found (P : Params) : Obj := o272 P
noncomputable def o273 (P : Params) : Obj := ⟨(.type "tuple"), none, (.seq (List.toArray []) 0), List.toArray []⟩
noncomputable def o274 (P : Params) : Obj := ⟨.none, none, (.fields (List.toArray [])), List.toArray []⟩
noncomputable def o275 (P : Params) : Obj := ⟨(.type "tuple"), none, (.seq (List.toArray [(.str (Str.ofString "one") 627), (.str (Str.ofString "other") 628), (.str (Str.ofString "left") 629), (.str (Str.ofString "x") 630)]) 0), List.toArray []⟩
noncomputable def o276 (P : Params) : Obj := ⟨(.type "tuple"), none, (.seq (List.toArray []) 0), List.toArray []⟩
noncomputable def o277B (B : List Stmt) (P : Params) : Obj := ⟨.none, none, (.func { name := (Str.ofString "_law_common"), qualname := (Str.ofString "_law_common"), params := argsN (stN B 11), body := .stmts (bodyN (stN B 11)), scope := scopeN (stN B 11), globals := 0, closure := [], defaults := .none, kwdefaults := .none, doc := .none, pyModule := .none, annotations := none, code := .none, closureTuple := .none, builtins := 0 }), List.toArray []⟩
noncomputable def o277 (P : Params) : Obj := o277B pwBody P
noncomputable def o278 (P : Params) : Obj := ⟨(.type "code"), none, (.fields (List.toArray [(.str (Str.ofString "_law_common") 624), (.str (Str.ofString "_law_common") 625), (.str (Str.ofString "/claim/cut.py") 626), (.int 469 0), (.int 2 0), (.int 0 0), (.int 0 0), (.int 3 0), (.ref 273), (.bool true), (.int 181 0), (.ref 274), .none, (.ref 275), (.ref 276), (.ref 277), (.int 631 0), (.int 469 0), (.str (Str.ofString "/claim/cut.py") 632)])), List.toArray []⟩
noncomputable def fd279B (B : List Stmt) : FuncData := { name := (Str.ofString "_law_common"), qualname := (Str.ofString "_law_common"), params := argsN (stN B 11), body := .stmts (bodyN (stN B 11)), scope := scopeN (stN B 11), globals := 3, closure := [], defaults := .none, kwdefaults := .none, doc := .none, pyModule := (.str (Str.ofString "law_dm0052_08") 582), annotations := none, code := (.ref 278), closureTuple := .none, builtins := 0 }
noncomputable def fd279 : FuncData := fd279B pwBody
noncomputable def at_law_common : Addr := 279
noncomputable def fdOf_law_common : FuncData := fd279
noncomputable def o279B (B : List Stmt) (P : Params) : Obj := ⟨(.type "function"), none, (.func (fd279B B)), List.toArray []⟩
noncomputable def o279 (P : Params) : Obj := o279B pwBody P
noncomputable def obOf_law_common (P : Params) : Obj := o279 P
noncomputable def o280 (P : Params) : Obj := ⟨(.type "tuple"), none, (.seq (List.toArray []) 0), List.toArray []⟩
noncomputable def o281 (P : Params) : Obj := ⟨.none, none, (.fields (List.toArray [])), List.toArray []⟩
noncomputable def o282B (B : List Stmt) (P : Params) : Obj := ⟨.none, none, (.func { name := (Str.ofString "law"), qualname := (Str.ofString "law"), params := argsN (stN B 12), body := .stmts (bodyN (stN B 12)), scope := scopeN (stN B 12), globals := 0, closure := [], defaults := .none, kwdefaults := .none, doc := .none, pyModule := .none, annotations := none, code := .none, closureTuple := .none, builtins := 0 }), List.toArray []⟩
noncomputable def o282 (P : Params) : Obj := o282B pwBody P
noncomputable def o283 (P : Params) : Obj := ⟨(.type "code"), none, (.fields (List.toArray [(.str (Str.ofString "law") 634), (.str (Str.ofString "law") 635), (.str (Str.ofString "/claim/cut.py") 636), (.int 475 0), (.int 1 0), (.int 0 0), (.int 0 0), (.int 3 0), (.ref 280), (.bool true), (.int 181 0), (.ref 281), .none, .none, .none, (.ref 282), (.int 637 0), (.int 475 0), (.str (Str.ofString "/claim/cut.py") 638)])), List.toArray []⟩
noncomputable def fd284B (B : List Stmt) : FuncData := { name := (Str.ofString "law"), qualname := (Str.ofString "law"), params := argsN (stN B 12), body := .stmts (bodyN (stN B 12)), scope := scopeN (stN B 12), globals := 3, closure := [], defaults := .none, kwdefaults := .none, doc := .none, pyModule := (.str (Str.ofString "law_dm0052_08") 582), annotations := none, code := (.ref 283), closureTuple := .none, builtins := 0 }
noncomputable def fd284 : FuncData := fd284B pwBody
noncomputable def at_law : Addr := 284
noncomputable def fdOf_law : FuncData := fd284
noncomputable def o284B (B : List Stmt) (P : Params) : Obj := ⟨(.type "function"), none, (.func (fd284B B)), List.toArray []⟩
noncomputable def o284 (P : Params) : Obj := o284B pwBody P
noncomputable def obOf_law (P : Params) : Obj := o284 P
noncomputable def p12 (P : Params) : Obj := ⟨.none, none, (.fields (List.toArray [])), List.toArray []⟩
noncomputable def heapPre (P : Params) : Heap := ⟨Array.mk [PySem.W.boot_o_0 P, PySem.W.boot_o_1 P, PySem.W.boot_o_2 P, PySem.W.boot_o_3 P, PySem.W.boot_o_4 P, PySem.W.boot_o_5 P, PySem.W.boot_o_6 P, PySem.W.boot_o_7 P, PySem.W.boot_o_8 P, PySem.W.boot_o_9 P, PySem.W.boot_o_10 P, o11 P, p12 P, o13 P, o14 P], (boot_heap P).life⟩
noncomputable def treePre (P : Params) : BT := (.node (PySem.W.boot_o_0 P) (.node (PySem.W.boot_o_1 P) (.node (PySem.W.boot_o_3 P) (.node (PySem.W.boot_o_7 P) .nil .nil) (.node (o11 P) .nil .nil)) (.node (PySem.W.boot_o_5 P) (.node (PySem.W.boot_o_9 P) .nil .nil) (.node (o13 P) .nil .nil))) (.node (PySem.W.boot_o_2 P) (.node (PySem.W.boot_o_4 P) (.node (PySem.W.boot_o_8 P) .nil .nil) (.node (p12 P) .nil .nil)) (.node (PySem.W.boot_o_6 P) (.node (PySem.W.boot_o_10 P) .nil .nil) (.node (o14 P) .nil .nil))))
noncomputable def hf23B (B : List Stmt) (P : Params) : List Obj := o276 P :: (o277B B) P :: o278 P :: (o279B B) P :: o280 P :: o281 P :: (o282B B) P :: o283 P :: (o284B B) P :: []
noncomputable def hf23 (P : Params) : List Obj := hf23B pwBody P
noncomputable def hf22B (B : List Stmt) (P : Params) : List Obj := o264 P :: (o265B B) P :: o266 P :: (o267B B) P :: o268 P :: o269 P :: (o270B B) P :: o271 P :: (o272B B) P :: o273 P :: o274 P :: o275 P :: (hf23B B) P
noncomputable def hf22 (P : Params) : List Obj := hf22B pwBody P
noncomputable def hf21B (B : List Stmt) (P : Params) : List Obj := o252 P :: (o253B B) P :: o254 P :: o255 P :: o256 P :: o257 P :: (o258B B) P :: o259 P :: (o260B B) P :: o261 P :: o262 P :: o263 P :: (hf22B B) P
noncomputable def hf21 (P : Params) : List Obj := hf21B pwBody P
noncomputable def hf20B (B : List Stmt) (P : Params) : List Obj := o240 P :: (o241B B) P :: o242 P :: o243 P :: o244 P :: o245 P :: o246 P :: o247 P :: o248 P :: o249 P :: o250 P :: (o251B B) P :: (hf21B B) P
noncomputable def hf20 (P : Params) : List Obj := hf20B pwBody P
noncomputable def hf19B (B : List Stmt) (P : Params) : List Obj := o228 P :: o229 P :: (o230B B) P :: o231 P :: (o232B B) P :: o233 P :: o234 P :: o235 P :: o236 P :: (o237B B) P :: o238 P :: (o239B B) P :: (hf20B B) P
noncomputable def hf19 (P : Params) : List Obj := hf19B pwBody P
noncomputable def hf18B (B : List Stmt) (P : Params) : List Obj := (o216B B) P :: o217 P :: (o218B B) P :: o219 P :: o220 P :: o221 P :: o222 P :: (o223B B) P :: o224 P :: (o225B B) P :: o226 P :: o227 P :: (hf19B B) P
noncomputable def hf18 (P : Params) : List Obj := hf18B pwBody P
noncomputable def hf17B (B : List Stmt) (P : Params) : List Obj := o204 P :: o205 P :: o206 P :: o207 P :: (o208B B) P :: o209 P :: (o210B B) P :: o211 P :: o212 P :: o213 P :: o214 P :: o215 P :: (hf18B B) P
noncomputable def hf17 (P : Params) : List Obj := hf17B pwBody P
noncomputable def hf16B (B : List Stmt) (P : Params) : List Obj := o192 P :: o193 P :: (o194B B) P :: o195 P :: (o196B B) P :: o197 P :: o198 P :: o199 P :: o200 P :: (o201B B) P :: o202 P :: (o203B B) P :: (hf17B B) P
noncomputable def hf16 (P : Params) : List Obj := hf16B pwBody P
noncomputable def hf15B (B : List Stmt) (P : Params) : List Obj := o180 P :: (o181B B) P :: o182 P :: o183 P :: o184 P :: o185 P :: (o186B B) P :: o187 P :: (o188B B) P :: o189 P :: o190 P :: o191 P :: (hf16B B) P
noncomputable def hf15 (P : Params) : List Obj := hf15B pwBody P
noncomputable def hf14B (B : List Stmt) (P : Params) : List Obj := o168 P :: o169 P :: o170 P :: o171 P :: (o172B B) P :: o173 P :: (o174B B) P :: o175 P :: o176 P :: o177 P :: o178 P :: (o179B B) P :: (hf15B B) P
noncomputable def hf14 (P : Params) : List Obj := hf14B pwBody P
noncomputable def hf13B (B : List Stmt) (P : Params) : List Obj := o156 P :: o157 P :: (o158B B) P :: o159 P :: (o160B B) P :: o161 P :: o162 P :: o163 P :: o164 P :: (o165B B) P :: o166 P :: (o167B B) P :: (hf14B B) P
noncomputable def hf13 (P : Params) : List Obj := hf13B pwBody P
noncomputable def hf12B (B : List Stmt) (P : Params) : List Obj := o144 P :: (o145B B) P :: o146 P :: o147 P :: (o148B B) P :: o149 P :: o150 P :: o151 P :: o152 P :: o153 P :: o154 P :: o155 P :: (hf13B B) P
noncomputable def hf12 (P : Params) : List Obj := hf12B pwBody P
noncomputable def hf11B (B : List Stmt) (P : Params) : List Obj := o132 P :: o133 P :: o134 P :: o135 P :: o136 P :: o137 P :: o138 P :: o139 P :: o140 P :: o141 P :: o142 P :: (o143B B) P :: (hf12B B) P
noncomputable def hf11 (P : Params) : List Obj := hf11B pwBody P
noncomputable def hf10B (B : List Stmt) (P : Params) : List Obj := o120 P :: (o121B B) P :: o122 P :: o123 P :: o124 P :: o125 P :: o126 P :: o127 P :: o128 P :: o129 P :: o130 P :: o131 P :: (hf11B B) P
noncomputable def hf10 (P : Params) : List Obj := hf10B pwBody P
noncomputable def hf9B (B : List Stmt) (P : Params) : List Obj := o108 P :: o109 P :: o110 P :: o111 P :: (o112B B) P :: o113 P :: (o114B B) P :: o115 P :: o116 P :: o117 P :: o118 P :: (o119B B) P :: (hf10B B) P
noncomputable def hf9 (P : Params) : List Obj := hf9B pwBody P
noncomputable def hf8B (B : List Stmt) (P : Params) : List Obj := o96 P :: o97 P :: (o98B B) P :: o99 P :: (o100B B) P :: o101 P :: o102 P :: o103 P :: o104 P :: (o105B B) P :: o106 P :: (o107B B) P :: (hf9B B) P
noncomputable def hf8 (P : Params) : List Obj := hf8B pwBody P
noncomputable def hf7B (B : List Stmt) (P : Params) : List Obj := o84 P :: o85 P :: o86 P :: (o87B B) P :: o88 P :: (o89B B) P :: o90 P :: o91 P :: o92 P :: o93 P :: o94 P :: o95 P :: (hf8B B) P
noncomputable def hf7 (P : Params) : List Obj := hf7B pwBody P
noncomputable def hf6B (B : List Stmt) (P : Params) : List Obj := o72 P :: o73 P :: o74 P :: o75 P :: o76 P :: o77 P :: o78 P :: o79 P :: (o80B B) P :: o81 P :: (o82B B) P :: o83 P :: (hf7B B) P
noncomputable def hf6 (P : Params) : List Obj := hf6B pwBody P
noncomputable def hf5B (B : List Stmt) (P : Params) : List Obj := o60 P :: o61 P :: o62 P :: o63 P :: o64 P :: o65 P :: o66 P :: o67 P :: o68 P :: o69 P :: o70 P :: o71 P :: (hf6B B) P
noncomputable def hf5 (P : Params) : List Obj := hf5B pwBody P
noncomputable def hf4B (B : List Stmt) (P : Params) : List Obj := (o48B B) P :: o49 P :: (o50B B) P :: o51 P :: o52 P :: o53 P :: o54 P :: (o55B B) P :: o56 P :: (o57B B) P :: o58 P :: o59 P :: (hf5B B) P
noncomputable def hf4 (P : Params) : List Obj := hf4B pwBody P
noncomputable def hf3B (B : List Stmt) (P : Params) : List Obj := o36 P :: o37 P :: o38 P :: o39 P :: o40 P :: (o41B B) P :: o42 P :: (o43B B) P :: o44 P :: o45 P :: o46 P :: o47 P :: (hf4B B) P
noncomputable def hf3 (P : Params) : List Obj := hf3B pwBody P
noncomputable def hf2B (B : List Stmt) (P : Params) : List Obj := o24 P :: o25 P :: o26 P :: o27 P :: o28 P :: o29 P :: o30 P :: o31 P :: o32 P :: (o33B B) P :: o34 P :: (o35B B) P :: (hf3B B) P
noncomputable def hf2 (P : Params) : List Obj := hf2B pwBody P
noncomputable def hf1B (B : List Stmt) (P : Params) : List Obj := o12 P :: o13 P :: o14 P :: o15 P :: o16 P :: o17 P :: o18 P :: (o19B B) P :: o20 P :: (o21B B) P :: o22 P :: o23 P :: (hf2B B) P
noncomputable def hf1 (P : Params) : List Obj := hf1B pwBody P
noncomputable def hf0B (B : List Stmt) (P : Params) : List Obj := PySem.W.boot_o_0 P :: PySem.W.boot_o_1 P :: PySem.W.boot_o_2 P :: o3 P :: PySem.W.boot_o_4 P :: PySem.W.boot_o_5 P :: PySem.W.boot_o_6 P :: PySem.W.boot_o_7 P :: PySem.W.boot_o_8 P :: PySem.W.boot_o_9 P :: PySem.W.boot_o_10 P :: o11 P :: (hf1B B) P
noncomputable def hf0 (P : Params) : List Obj := hf0B pwBody P
noncomputable def heapFinB (B : List Stmt) (P : Params) : Heap := ⟨Array.mk ((hf0B B) P), (boot_heap P).life⟩
noncomputable def heapFin (P : Params) : Heap := heapFinB pwBody P
noncomputable def tf0 (P : Params) : BT := (.node (o63 P) (.node (o127 P) (.node (o255 P) .nil .nil) .nil) (.node (o191 P) .nil .nil))
noncomputable def tf1B (B : List Stmt) (P : Params) : BT := (.node (o79 P) (.node ((o143B B) P) (.node (o271 P) .nil .nil) .nil) (.node (o207 P) .nil .nil))
noncomputable def tf1 (P : Params) : BT := tf1B pwBody P
noncomputable def tf2 (P : Params) : BT := (.node (o71 P) (.node (o135 P) (.node (o263 P) .nil .nil) .nil) (.node (o199 P) .nil .nil))
noncomputable def tf3B (B : List Stmt) (P : Params) : BT := (.node ((o87B B) P) (.node (o151 P) (.node ((o279B B) P) .nil .nil) .nil) (.node (o215 P) .nil .nil))
noncomputable def tf3 (P : Params) : BT := tf3B pwBody P
noncomputable def tf4B (B : List Stmt) (P : Params) : BT := (.node (PySem.W.boot_o_7 P) (.node (o15 P) (.node (o31 P) (tf0 P) (.node (o95 P) (.node (o159 P) .nil .nil) (.node ((o223B B) P) .nil .nil))) (.node (o47 P) ((tf1B B) P) (.node (o111 P) (.node (o175 P) .nil .nil) (.node ((o239B B) P) .nil .nil)))) (.node (o23 P) (.node (o39 P) (tf2 P) (.node (o103 P) (.node ((o167B B) P) .nil .nil) (.node (o231 P) .nil .nil))) (.node ((o55B B) P) ((tf3B B) P) (.node ((o119B B) P) (.node (o183 P) .nil .nil) (.node (o247 P) .nil .nil)))))
noncomputable def tf4 (P : Params) : BT := tf4B pwBody P
noncomputable def tf5 (P : Params) : BT := (.node (o67 P) (.node (o131 P) (.node (o259 P) .nil .nil) .nil) (.node (o195 P) .nil .nil))
noncomputable def tf6 (P : Params) : BT := (.node (o83 P) (.node (o147 P) (.node (o275 P) .nil .nil) .nil) (.node (o211 P) .nil .nil))
noncomputable def tf7B (B : List Stmt) (P : Params) : BT := (.node (o75 P) (.node (o139 P) (.node ((o267B B) P) .nil .nil) .nil) (.node ((o203B B) P) .nil .nil))
noncomputable def tf7 (P : Params) : BT := tf7B pwBody P
noncomputable def tf8 (P : Params) : BT := (.node (o91 P) (.node (o155 P) (.node (o283 P) .nil .nil) .nil) (.node (o219 P) .nil .nil))
noncomputable def tf9B (B : List Stmt) (P : Params) : BT := (.node (o11 P) (.node ((o19B B) P) (.node ((o35B B) P) (tf5 P) (.node (o99 P) (.node (o163 P) .nil .nil) (.node (o227 P) .nil .nil))) (.node (o51 P) (tf6 P) (.node (o115 P) (.node ((o179B B) P) .nil .nil) (.node (o243 P) .nil .nil)))) (.node (o27 P) (.node ((o43B B) P) ((tf7B B) P) (.node ((o107B B) P) (.node (o171 P) .nil .nil) (.node (o235 P) .nil .nil))) (.node (o59 P) (tf8 P) (.node (o123 P) (.node (o187 P) .nil .nil) (.node ((o251B B) P) .nil .nil)))))
noncomputable def tf9 (P : Params) : BT := tf9B pwBody P
noncomputable def tf10 (P : Params) : BT := (.node (o65 P) (.node (o129 P) (.node (o257 P) .nil .nil) .nil) (.node (o193 P) .nil .nil))
noncomputable def tf11B (B : List Stmt) (P : Params) : BT := (.node (o81 P) (.node ((o145B B) P) (.node (o273 P) .nil .nil) .nil) (.node (o209 P) .nil .nil))
noncomputable def tf11 (P : Params) : BT := tf11B pwBody P
noncomputable def tf12B (B : List Stmt) (P : Params) : BT := (.node (o73 P) (.node (o137 P) (.node ((o265B B) P) .nil .nil) .nil) (.node ((o201B B) P) .nil .nil))
noncomputable def tf12 (P : Params) : BT := tf12B pwBody P
noncomputable def tf13B (B : List Stmt) (P : Params) : BT := (.node ((o89B B) P) (.node (o153 P) (.node (o281 P) .nil .nil) .nil) (.node (o217 P) .nil .nil))
noncomputable def tf13 (P : Params) : BT := tf13B pwBody P
noncomputable def tf14B (B : List Stmt) (P : Params) : BT := (.node (PySem.W.boot_o_9 P) (.node (o17 P) (.node ((o33B B) P) (tf10 P) (.node (o97 P) (.node (o161 P) .nil .nil) (.node ((o225B B) P) .nil .nil))) (.node (o49 P) ((tf11B B) P) (.node (o113 P) (.node (o177 P) .nil .nil) (.node ((o241B B) P) .nil .nil)))) (.node (o25 P) (.node ((o41B B) P) ((tf12B B) P) (.node ((o105B B) P) (.node (o169 P) .nil .nil) (.node (o233 P) .nil .nil))) (.node ((o57B B) P) ((tf13B B) P) (.node ((o121B B) P) (.node (o185 P) .nil .nil) (.node (o249 P) .nil .nil)))))
noncomputable def tf14 (P : Params) : BT := tf14B pwBody P
noncomputable def tf15 (P : Params) : BT := (.node (o69 P) (.node (o133 P) (.node (o261 P) .nil .nil) .nil) (.node (o197 P) .nil .nil))
noncomputable def tf16B (B : List Stmt) (P : Params) : BT := (.node (o85 P) (.node (o149 P) (.node ((o277B B) P) .nil .nil) .nil) (.node (o213 P) .nil .nil))
noncomputable def tf16 (P : Params) : BT := tf16B pwBody P
noncomputable def tf17 (P : Params) : BT := (.node (o77 P) (.node (o141 P) (.node (o269 P) .nil .nil) .nil) (.node (o205 P) .nil .nil))
noncomputable def tf18B (B : List Stmt) (P : Params) : BT := (.node (o13 P) (.node ((o21B B) P) (.node (o37 P) (tf15 P) (.node (o101 P) (.node ((o165B B) P) .nil .nil) (.node (o229 P) .nil .nil))) (.node (o53 P) ((tf16B B) P) (.node (o117 P) (.node ((o181B B) P) .nil .nil) (.node (o245 P) .nil .nil)))) (.node (o29 P) (.node (o45 P) (tf17 P) (.node (o109 P) (.node (o173 P) .nil .nil) (.node ((o237B B) P) .nil .nil))) (.node (o61 P) (.node (o93 P) (.node (o157 P) .nil .nil) (.node (o221 P) .nil .nil)) (.node (o125 P) (.node (o189 P) .nil .nil) (.node ((o253B B) P) .nil .nil)))))
noncomputable def tf18 (P : Params) : BT := tf18B pwBody P
noncomputable def tf19 (P : Params) : BT := (.node (o64 P) (.node (o128 P) (.node (o256 P) .nil .nil) .nil) (.node (o192 P) .nil .nil))
noncomputable def tf20B (B : List Stmt) (P : Params) : BT := (.node ((o80B B) P) (.node (o144 P) (.node ((o272B B) P) .nil .nil) .nil) (.node ((o208B B) P) .nil .nil))
noncomputable def tf20 (P : Params) : BT := tf20B pwBody P
noncomputable def tf21 (P : Params) : BT := (.node (o72 P) (.node (o136 P) (.node (o264 P) .nil .nil) .nil) (.node (o200 P) .nil .nil))
noncomputable def tf22B (B : List Stmt) (P : Params) : BT := (.node (o88 P) (.node (o152 P) (.node (o280 P) .nil .nil) .nil) (.node ((o216B B) P) .nil .nil))
noncomputable def tf22 (P : Params) : BT := tf22B pwBody P
noncomputable def tf23B (B : List Stmt) (P : Params) : BT := (.node (PySem.W.boot_o_8 P) (.node (o16 P) (.node (o32 P) (tf19 P) (.node (o96 P) (.node ((o160B B) P) .nil .nil) (.node (o224 P) .nil .nil))) (.node ((o48B B) P) ((tf20B B) P) (.node ((o112B B) P) (.node (o176 P) .nil .nil) (.node (o240 P) .nil .nil)))) (.node (o24 P) (.node (o40 P) (tf21 P) (.node (o104 P) (.node (o168 P) .nil .nil) (.node ((o232B B) P) .nil .nil))) (.node (o56 P) ((tf22B B) P) (.node (o120 P) (.node (o184 P) .nil .nil) (.node (o248 P) .nil .nil)))))
noncomputable def tf23 (P : Params) : BT := tf23B pwBody P
noncomputable def tf24B (B : List Stmt) (P : Params) : BT := (.node (o68 P) (.node (o132 P) (.node ((o260B B) P) .nil .nil) .nil) (.node ((o196B B) P) .nil .nil))
noncomputable def tf24 (P : Params) : BT := tf24B pwBody P
noncomputable def tf25B (B : List Stmt) (P : Params) : BT := (.node (o84 P) (.node ((o148B B) P) (.node (o276 P) .nil .nil) .nil) (.node (o212 P) .nil .nil))
noncomputable def tf25 (P : Params) : BT := tf25B pwBody P
noncomputable def tf26 (P : Params) : BT := (.node (o76 P) (.node (o140 P) (.node (o268 P) .nil .nil) .nil) (.node (o204 P) .nil .nil))
noncomputable def tf27B (B : List Stmt) (P : Params) : BT := (.node (o92 P) (.node (o156 P) (.node ((o284B B) P) .nil .nil) .nil) (.node (o220 P) .nil .nil))
noncomputable def tf27 (P : Params) : BT := tf27B pwBody P
noncomputable def tf28B (B : List Stmt) (P : Params) : BT := (.node (o12 P) (.node (o20 P) (.node (o36 P) ((tf24B B) P) (.node ((o100B B) P) (.node (o164 P) .nil .nil) (.node (o228 P) .nil .nil))) (.node (o52 P) ((tf25B B) P) (.node (o116 P) (.node (o180 P) .nil .nil) (.node (o244 P) .nil .nil)))) (.node (o28 P) (.node (o44 P) (tf26 P) (.node (o108 P) (.node ((o172B B) P) .nil .nil) (.node (o236 P) .nil .nil))) (.node (o60 P) ((tf27B B) P) (.node (o124 P) (.node ((o188B B) P) .nil .nil) (.node (o252 P) .nil .nil)))))
noncomputable def tf28 (P : Params) : BT := tf28B pwBody P
noncomputable def tf29B (B : List Stmt) (P : Params) : BT := (.node (o66 P) (.node (o130 P) (.node ((o258B B) P) .nil .nil) .nil) (.node ((o194B B) P) .nil .nil))
noncomputable def tf29 (P : Params) : BT := tf29B pwBody P
noncomputable def tf30B (B : List Stmt) (P : Params) : BT := (.node ((o82B B) P) (.node (o146 P) (.node (o274 P) .nil .nil) .nil) (.node ((o210B B) P) .nil .nil))
noncomputable def tf30 (P : Params) : BT := tf30B pwBody P
noncomputable def tf31 (P : Params) : BT := (.node (o74 P) (.node (o138 P) (.node (o266 P) .nil .nil) .nil) (.node (o202 P) .nil .nil))
noncomputable def tf32B (B : List Stmt) (P : Params) : BT := (.node (o90 P) (.node (o154 P) (.node ((o282B B) P) .nil .nil) .nil) (.node ((o218B B) P) .nil .nil))
noncomputable def tf32 (P : Params) : BT := tf32B pwBody P
noncomputable def tf33B (B : List Stmt) (P : Params) : BT := (.node (PySem.W.boot_o_10 P) (.node (o18 P) (.node (o34 P) ((tf29B B) P) (.node ((o98B B) P) (.node (o162 P) .nil .nil) (.node (o226 P) .nil .nil))) (.node ((o50B B) P) ((tf30B B) P) (.node ((o114B B) P) (.node (o178 P) .nil .nil) (.node (o242 P) .nil .nil)))) (.node (o26 P) (.node (o42 P) (tf31 P) (.node (o106 P) (.node (o170 P) .nil .nil) (.node (o234 P) .nil .nil))) (.node (o58 P) ((tf32B B) P) (.node (o122 P) (.node ((o186B B) P) .nil .nil) (.node (o250 P) .nil .nil)))))
noncomputable def tf33 (P : Params) : BT := tf33B pwBody P
noncomputable def tf34 (P : Params) : BT := (.node (o70 P) (.node (o134 P) (.node (o262 P) .nil .nil) .nil) (.node (o198 P) .nil .nil))
noncomputable def tf35 (P : Params) : BT := (.node (o86 P) (.node (o150 P) (.node (o278 P) .nil .nil) .nil) (.node (o214 P) .nil .nil))
noncomputable def tf36B (B : List Stmt) (P : Params) : BT := (.node (o78 P) (.node (o142 P) (.node ((o270B B) P) .nil .nil) .nil) (.node (o206 P) .nil .nil))
noncomputable def tf36 (P : Params) : BT := tf36B pwBody P
noncomputable def tf37B (B : List Stmt) (P : Params) : BT := (.node (o14 P) (.node (o22 P) (.node (o38 P) (tf34 P) (.node (o102 P) (.node (o166 P) .nil .nil) (.node ((o230B B) P) .nil .nil))) (.node (o54 P) (tf35 P) (.node (o118 P) (.node (o182 P) .nil .nil) (.node (o246 P) .nil .nil)))) (.node (o30 P) (.node (o46 P) ((tf36B B) P) (.node (o110 P) (.node ((o174B B) P) .nil .nil) (.node (o238 P) .nil .nil))) (.node (o62 P) (.node (o94 P) (.node ((o158B B) P) .nil .nil) (.node (o222 P) .nil .nil)) (.node (o126 P) (.node (o190 P) .nil .nil) (.node (o254 P) .nil .nil)))))
noncomputable def tf37 (P : Params) : BT := tf37B pwBody P
noncomputable def treeFinB (B : List Stmt) (P : Params) : BT := (.node (PySem.W.boot_o_0 P) (.node (PySem.W.boot_o_1 P) (.node (o3 P) ((tf4B B) P) ((tf9B B) P)) (.node (PySem.W.boot_o_5 P) ((tf14B B) P) ((tf18B B) P))) (.node (PySem.W.boot_o_2 P) (.node (PySem.W.boot_o_4 P) ((tf23B B) P) ((tf28B B) P)) (.node (PySem.W.boot_o_6 P) ((tf33B B) P) ((tf37B B) P))))
noncomputable def treeFin (P : Params) : BT := treeFinB pwBody P
noncomputable def frag (P : Params) : Frag := [(1, PySem.W.boot_o_1 P), (2, PySem.W.boot_o_2 P), (3, o3 P), (15, o15 P), (17, o17 P), (18, o18 P), (20, o20 P), (21, o21 P), (29, o29 P), (31, o31 P), (32, o32 P), (34, o34 P), (35, o35 P), (36, o36 P), (37, o37 P), (39, o39 P), (40, o40 P), (42, o42 P), (43, o43 P), (44, o44 P), (46, o46 P), (47, o47 P), (49, o49 P), (50, o50 P), (51, o51 P), (53, o53 P), (54, o54 P), (56, o56 P), (57, o57 P), (58, o58 P), (59, o59 P), (60, o60 P), (61, o61 P), (62, o62 P), (65, o65 P), (68, o68 P), (73, o73 P), (74, o74 P), (75, o75 P), (76, o76 P), (78, o78 P), (79, o79 P), (81, o81 P), (82, o82 P), (83, o83 P), (85, o85 P), (86, o86 P), (88, o88 P), (89, o89 P), (90, o90 P), (91, o91 P), (92, o92 P), (93, o93 P), (94, o94 P), (96, o96 P), (97, o97 P), (99, o99 P), (100, o100 P), (101, o101 P), (103, o103 P), (104, o104 P), (106, o106 P), (107, o107 P), (108, o108 P), (110, o110 P), (111, o111 P), (113, o113 P), (114, o114 P), (115, o115 P), (117, o117 P), (118, o118 P), (120, o120 P), (121, o121 P), (122, o122 P), (123, o123 P), (124, o124 P), (126, o126 P), (127, o127 P), (129, o129 P), (130, o130 P), (132, o132 P), (134, o134 P), (135, o135 P), (136, o136 P), (139, o139 P), (141, o141 P), (142, o142 P), (144, o144 P), (145, o145 P), (153, o153 P), (154, o154 P), (156, o156 P), (157, o157 P), (159, o159 P), (160, o160 P), (161, o161 P), (163, o163 P), (164, o164 P), (166, o166 P), (167, o167 P), (168, o168 P), (170, o170 P), (171, o171 P), (173, o173 P), (174, o174 P), (175, o175 P), (177, o177 P), (178, o178 P), (180, o180 P), (181, o181 P), (182, o182 P), (184, o184 P), (185, o185 P), (187, o187 P), (188, o188 P), (189, o189 P), (190, o190 P), (192, o192 P), (193, o193 P), (195, o195 P), (196, o196 P), (197, o197 P), (199, o199 P), (200, o200 P), (202, o202 P), (203, o203 P), (204, o204 P), (206, o206 P), (207, o207 P), (209, o209 P), (210, o210 P), (211, o211 P), (212, o212 P), (214, o214 P), (215, o215 P), (217, o217 P), (218, o218 P), (219, o219 P), (221, o221 P), (222, o222 P), (224, o224 P), (225, o225 P), (226, o226 P), (228, o228 P), (229, o229 P), (231, o231 P), (232, o232 P), (233, o233 P), (235, o235 P), (236, o236 P), (238, o238 P), (239, o239 P), (240, o240 P), (241, o241 P), (242, o242 P), (243, o243 P), (244, o244 P), (247, o247 P), (249, o249 P), (250, o250 P), (252, o252 P), (253, o253 P), (254, o254 P), (256, o256 P), (257, o257 P), (259, o259 P), (260, o260 P), (261, o261 P), (263, o263 P), (264, o264 P), (266, o266 P), (267, o267 P), (268, o268 P), (271, o271 P), (272, o272 P), (273, o273 P), (275, o275 P), (276, o276 P), (278, o278 P), (279, o279 P), (280, o280 P), (283, o283 P), (284, o284 P)]
noncomputable def fragAt : List Addr := [1, 2, 3, 15, 17, 18, 20, 21, 29, 31, 32, 34, 35, 36, 37, 39, 40, 42, 43, 44, 46, 47, 49, 50, 51, 53, 54, 56, 57, 58, 59, 60, 61, 62, 65, 68, 73, 74, 75, 76, 78, 79, 81, 82, 83, 85, 86, 88, 89, 90, 91, 92, 93, 94, 96, 97, 99, 100, 101, 103, 104, 106, 107, 108, 110, 111, 113, 114, 115, 117, 118, 120, 121, 122, 123, 124, 126, 127, 129, 130, 132, 134, 135, 136, 139, 141, 142, 144, 145, 153, 154, 156, 157, 159, 160, 161, 163, 164, 166, 167, 168, 170, 171, 173, 174, 175, 177, 178, 180, 181, 182, 184, 185, 187, 188, 189, 190, 192, 193, 195, 196, 197, 199, 200, 202, 203, 204, 206, 207, 209, 210, 211, 212, 214, 215, 217, 218, 219, 221, 222, 224, 225, 226, 228, 229, 231, 232, 233, 235, 236, 238, 239, 240, 241, 242, 243, 244, 247, 249, 250, 252, 253, 254, 256, 257, 259, 260, 261, 263, 264, 266, 267, 268, 271, 272, 273, 275, 276, 278, 279, 280, 283, 284]
noncomputable def annV : Option Value := (some (.ref 6))
noncomputable def envTop : Env := { scope := PySem.Challenge.pw_dm0052_08.main.scope, locals := mainNs, globals := mainNs, cells := [], code := (.ref 13), frame := some 14 }
noncomputable def envQ : Env := { scope := PySem.W.Fast.tw10720726730118203017.main.scope, locals := mainNs, globals := mainNs, cells := [], code := (.ref 13), frame := some 14 }
theorem envEq : envTop = envQ := by
  unfold envTop envQ
  rw [PySem.W.Fast.te10720726730118203017]
noncomputable def viewP : Program := { PySem.Challenge.pw_dm0052_08 with main := { PySem.Challenge.pw_dm0052_08.main with body := [0, 2, 3, 4, 5, 7, 8, 9, 10, 11, 12].map (stN pwBody) } }
noncomputable def looseN : List Str := [Str.ofString "_tuplegetter", Str.ofString "Match", Str.ofString "SequenceMatcher"]
theorem bodyEq : pwBody = twBody := by
  unfold pwBody twBody
  rw [PySem.W.Fast.te10720726730118203017]
theorem segAll (w : World) (os : OsState) : segRunT treeTable PySem.Challenge.pw_dm0052_08 w 11 annV 1 2286 (⟨treePre w.params, 15, (boot_heap w.params).life, Array.mk [], boot_drawn, 187, os⟩ : SharedT) (piecesOf (behindTheImports PySem.Challenge.pw_dm0052_08) envTop (Code.body (behindTheImports PySem.Challenge.pw_dm0052_08) envTop) ⟨0, 0, 0, 0⟩ [topFrame ⟨0, 0, 0, 0⟩]) = some (.next, (⟨treeFin w.params, 285, (boot_heap w.params).life, Array.mk [], boot_drawn, 640, os⟩ : SharedT), (Code.body (behindTheImports PySem.Challenge.pw_dm0052_08) envTop), ⟨475, 0, 490, 15⟩) := by
  unfold treeFin
  rw [bodyEq, PySem.W.Fast.te10110043849684766642, tabOf_eq, PySem.W.Fast.te10720726730118203017, envEq]
  delta PySem.W.Fast.tw4202317264376624991
  rw [anyQ_eq]
  kernel_rfl!
theorem preRun (w : World) (os : OsState) : topGo treeTable PySem.Challenge.pw_dm0052_08 w 11 annV 12 (⟨boot_heap w.params, Array.mk [], boot_drawn, boot_toks, os⟩ : Shared) (topStub PySem.Challenge.pw_dm0052_08) = some ((⟨heapPre w.params, Array.mk [], boot_drawn, 187, os⟩ : Shared), ⟨denote treeTable (Code.body (behindTheImports PySem.Challenge.pw_dm0052_08) envTop), (Code.body (behindTheImports PySem.Challenge.pw_dm0052_08) envTop), ⟨0, 0, 0, 0⟩, [topFrame ⟨0, 0, 0, 0⟩]⟩) := by
  rw [PySem.W.Fast.te15667345088766844465, PySem.W.Fast.te11892475500146522536, PySem.W.Fast.te14364793385576792824, PySem.W.Fast.te10720726730118203017, envEq]
  kernel_rfl!
theorem blockRun (w : World) (os : OsState) : segRun treeTable PySem.Challenge.pw_dm0052_08 w 11 annV 1 1 (⟨heapPre w.params, Array.mk [], boot_drawn, 187, os⟩ : Shared) (blockOf (behindTheImports PySem.Challenge.pw_dm0052_08) envTop (Code.body (behindTheImports PySem.Challenge.pw_dm0052_08) envTop) ⟨0, 0, 0, 0⟩ [topFrame ⟨0, 0, 0, 0⟩]) = some (.next, (⟨treePre w.params, 15, (boot_heap w.params).life, Array.mk [], boot_drawn, 187, os⟩ : SharedT).abs, (Code.body (behindTheImports PySem.Challenge.pw_dm0052_08) envTop), ⟨0, 0, 0, 0⟩) := by
  rw [PySem.W.Fast.te14374325043358763698, PySem.W.Fast.te14364793385576792824, PySem.W.Fast.te10720726730118203017, envEq]
  kernel_rfl!
theorem finRun (w : World) (os : OsState) : topRun treeTable PySem.Challenge.pw_dm0052_08 w 11 annV 2 (⟨treeFin w.params, 285, (boot_heap w.params).life, Array.mk [], boot_drawn, 640, os⟩ : SharedT).abs ⟨doneF .next, (Code.body (behindTheImports PySem.Challenge.pw_dm0052_08) envTop), ⟨475, 0, 490, 15⟩, [topFrame ⟨0, 0, 0, 0⟩]⟩ = some (⟨heapFin w.params, Array.mk [], boot_drawn, 640, os⟩ : Shared) := by
  rw [PySem.W.Fast.te14082659384304107361, PySem.W.Fast.te14364793385576792824, PySem.W.Fast.te10720726730118203017, envEq]
  kernel_rfl!
theorem topAll (w : World) (os : OsState) : topRun treeTable PySem.Challenge.pw_dm0052_08 w 11 annV (12 + (1 + (2286 + 2))) (⟨boot_heap w.params, Array.mk [], boot_drawn, boot_toks, os⟩ : Shared) (topStub PySem.Challenge.pw_dm0052_08) = some (⟨heapFin w.params, Array.mk [], boot_drawn, 640, os⟩ : Shared) := by
  refine go_top (preRun w os) (piece_block (blockRun w os) ?_)
  have k := piece_app (rest := []) (segRun_of (segAll w os)) (piece_nil (finRun w os))
  rw [List.append_nil] at k
  exact k
theorem opened : ∀ w : World, (fencedOpening treeTable PySem.Challenge.pw_dm0052_08 w 4696).map (fun s => (s.heap, s.gens, s.drawn, s.toks)) = some (boot_heap w.params, Array.mk [], boot_drawn, boot_toks) :=
  boot_open (by kernel_rfl!) (by decide) (fun s => by kernel_rfl!)
theorem sized : ∀ w : World, ((boot_heap w.params).isNs mainGlobals && (Array.mk [] : Array GenState).size == 0, (boot_heap w.params).objs.size, (boot_heap w.params).nsMap mainGlobals "__annotations__") = (true, 11, annV) := fun w => by kernel_rfl!
theorem fragAll : ∀ P, fragAt = (frag P).map (·.1) := fun P => by kernel_rfl!
theorem look1 (w : World) (os : OsState) : (staticsOk (importedModules PySem.Challenge.pw_dm0052_08.main.body) (boot_heap w.params) (heapFin w.params) && namesBound PySem.Challenge.pw_dm0052_08 (heapFin w.params) && gensDone (⟨heapFin w.params, Array.mk [], boot_drawn, 640, os⟩ : Shared) && laidKept (boot_heap w.params) (heapFin w.params)) = true := by
  rw [PySem.W.Fast.te10720726730118203017]
  kernel_rfl!
theorem look2 (w : World) (os : OsState) : openSeen viewP looseN (importedModules PySem.Challenge.pw_dm0052_08.main.body) (fun s => xlAt viewP [] s && recOk [] s) true (⟨heapFin w.params, Array.mk [], boot_drawn, 640, os⟩ : Shared) = openGood viewP looseN := by
  rw [PySem.W.Fast.te4187177175401517315, PySem.W.Fast.te10720726730118203017]
  kernel_rfl!
theorem look3 (w : World) (os : OsState) : fragAt.map (⟨heapFin w.params, Array.mk [], boot_drawn, 640, os⟩ : Shared).heap.get? = (frag w.params).map fun p => some p.2 := by
  kernel_rfl!
theorem left : LeftO PySem.Challenge.pw_dm0052_08 viewP looseN (fun s => xlAt viewP [] s && recOk [] s) (kHook frag fragAt fragAll).obs (kHook frag fragAt fragAll).val 4696 :=
  LeftO.of_pieces opened sized topAll (by decide) (fun w => funext fun os => looks_pair (look1 w os) (looks_pair (look2 w os) (look3 w os)))
end Mine

end
section
open PySem PySem.W PyProof.Rows
set_option Elab.async false
set_option linter.unusedVariables false
set_option maxRecDepth 100000
namespace Mine
local macro_rules | `(tactic| walk_at "mem") => `(tactic| first | with_reducible exact List.mem_cons_self | (with_reducible refine List.mem_cons_of_mem _ ?_; walk_at "mem") | (with_reducible refine List.mem_append_left _ ?_; walk_at "mem") | (with_reducible refine List.mem_append_right _ ?_; walk_at "mem"))

noncomputable def Sub (D : List Addr) (h h' : Heap) : Prop := ∀ b o, b ∉ D → h.get? b = some o → h'.get? b = some o
theorem Sub.refl {D : List Addr} {h : Heap} : Sub D h h := fun _ _ _ e => e
theorem Sub.trans {D : List Addr} {h h' h'' : Heap} (x : Sub D h h') (y : Sub D h' h'') : Sub D h h'' := fun b o n e => y b o n (x b o n e)
theorem Sub.nil {D : List Addr} {h h' : Heap} (x : Sub [] h h') : Sub D h h' := fun b o _ e => x b o (by first | walk_at "mem" | simp) e
theorem Sub.push (h : Heap) (o : Obj) : Sub [] h (h.push o) := fun _ _ _ e => Heap.get?_push_of_some _ e
theorem Sub.of_keep {h h' : Heap} (k : ∀ b o, h.get? b = some o → h'.get? b = some o) : Sub [] h h' := fun b o _ e => k b o e
theorem Sub.keep {h h' : Heap} (x : Sub [] h h') : ∀ b o, h.get? b = some o → h'.get? b = some o := fun b o e => x b o (by first | walk_at "mem" | simp) e
theorem Sub.same {d : Addr} {h h' : Heap} (x : Heap.SameBut d h h') : Sub [d] h h' := fun b o n e => (x.2 b (by simpa using n)).trans e
theorem Sub.ext {d : Addr} {h h' : Heap} (x : Heap.ExtBut d h h') : Sub [d] h h' := fun b o n e => x b o (by simpa using n) e
theorem get_size_none (h : Heap) : h.get? h.objs.size = none := by
  cases e : h.get? h.objs.size with
  | none => rfl
  | some o => exact absurd (Heap.lt_size e) (Nat.lt_irrefl _)
theorem get_push_self (h : Heap) (o : Obj) (hf : o.isFreed = false := by rfl) : (h.push o).get? h.objs.size = some o := Heap.get?_push_size _ hf

structure S (h₀ : Heap) (D : List Addr) (L : Addr) (m : Str → Option Value) (l : List (Addr × Obj)) (h : Heap) : Prop where
  base : Sub D h₀ h
  ns : h.Ns L m
  led : ∀ p ∈ l, h.get? p.1 = some p.2
  own : ∀ p ∈ l, p.1 ∈ D ∨ h₀.get? p.1 = none
  nodup : (l.map (·.1)).Nodup
  offL : L ∉ l.map (·.1)
  newL : h₀.get? L = none
  dl : ∀ d ∈ D, d ∈ l.map (·.1)

variable {h₀ h h' : Heap} {D : List Addr} {L : Addr} {m : Str → Option Value} {l : List (Addr × Obj)}

theorem S.get (H : S h₀ D L m l h) {a : Addr} {o : Obj} (hm : (a, o) ∈ l) : h.get? a = some o := H.led _ hm
theorem S.old (H : S h₀ D L m l h) {a : Addr} {o : Obj} (e : h₀.get? a = some o) (n : a ∉ D) : h.get? a = some o := H.base _ _ n e
theorem S.sub (H : S h₀ D L m l h) (x : Sub [] h h') : S h₀ D L m l h' where
  base := H.base.trans x.nil
  ns := let ⟨o, es, ep, e, r⟩ := H.ns; ⟨o, es, ep, x _ _ (by first | walk_at "mem" | simp) e, r⟩
  led := fun p hp => x _ _ (by first | walk_at "mem" | simp) (H.led p hp)
  own := H.own
  nodup := H.nodup
  offL := H.offL
  newL := H.newL
  dl := H.dl

theorem S.store {m' : Str → Option Value} (H : S h₀ D L m l h) (hn : h'.Ns L m') (x : Heap.SameBut L h h') : S h₀ D L m' l h' where
  base := fun b o n e => (x.2 b (fun q => by subst q; rw [H.newL] at e; cases e)).trans (H.base b o n e)
  ns := hn
  led := fun p hp => (x.2 p.1 (fun q => H.offL (q ▸ List.mem_map_of_mem hp))).trans (H.led p hp)
  own := H.own
  nodup := H.nodup
  offL := H.offL
  newL := H.newL
  dl := H.dl

theorem S.add {a : Addr} {o : Obj} (H : S h₀ D L m l h) (x : Sub [] h h') (hn : h.get? a = none) (ho : h'.get? a = some o) : S h₀ D L m ((a, o) :: l) h' where
  base := (H.sub x).base
  ns := (H.sub x).ns
  led := fun p hp => by
    rcases List.mem_cons.mp hp with rfl | hp
    · exact ho
    · exact (H.sub x).led p hp
  own := fun p hp => by
    rcases List.mem_cons.mp hp with rfl | hp
    · by_cases q : a ∈ D
      · exact .inl q
      · refine .inr ?_
        cases e : h₀.get? a with
        | none => rfl
        | some o' => rw [H.base a o' q e] at hn; cases hn
    · exact H.own p hp
  nodup := by
    rw [List.map_cons, List.nodup_cons]
    refine ⟨fun q => ?_, H.nodup⟩
    obtain ⟨p, hp, e⟩ := List.mem_map.mp q
    have := H.led p hp
    rw [e, hn] at this; cases this
  offL := by
    rw [List.map_cons, List.mem_cons]
    rintro (q | q)
    · obtain ⟨o', _, _, e, _⟩ := H.ns
      rw [q, hn] at e; cases e
    · exact H.offL q
  newL := H.newL
  dl := fun d hd => List.mem_cons_of_mem _ (H.dl d hd)

theorem S.upd {d : Addr} {o o' : Obj} (H : S h₀ D L m l h) (i : Nat) (hi : l[i]? = some (d, o)) (x : Sub [d] h h') (ho : h'.get? d = some o') : S h₀ D L m (l.set i (d, o')) h' where
  base := fun b ob n e => x b ob (fun q => by
    obtain rfl : b = d := by simpa using q
    rcases H.own (b, o) (List.mem_of_getElem? hi) with y | y
    · exact n y
    · rw [y] at e; cases e) (H.base b ob n e)
  ns := by
    obtain ⟨oL, es, ep, e, r⟩ := H.ns
    refine ⟨oL, es, ep, x _ _ (fun q => ?_) e, r⟩
    obtain rfl : L = d := by simpa using q
    exact H.offL (List.mem_map.mpr ⟨_, List.mem_of_getElem? hi, rfl⟩)
  led := fun p hp => by
    obtain ⟨j, hj, rfl⟩ := List.getElem_of_mem hp
    rw [List.getElem_set] at *
    rw [List.length_set] at hj
    split
    · exact ho
    · rename_i ne
      refine x _ _ (fun q => ?_) (H.led _ (List.getElem_mem hj))
      have hi' : i < l.length := by
        rcases Nat.lt_or_ge i l.length with y | y
        · exact y
        · rw [List.getElem?_eq_none y] at hi; cases hi
      have e1 : l[i] = (d, o) := by rw [List.getElem?_eq_getElem hi'] at hi; exact Option.some.inj hi
      have e2 : l[j].1 = d := by simpa using q
      have nd := List.pairwise_iff_getElem.mp H.nodup
      rcases Nat.lt_trichotomy i j with y | y | y
      · exact nd i j (by simpa using hi') (by simpa using hj) y (by simp [e1, e2])
      · exact ne y
      · exact nd j i (by simpa using hj) (by simpa using hi') y (by simp [e1, e2])
  own := fun p hp => by
    rcases List.mem_or_eq_of_mem_set hp with y | y
    · exact H.own p y
    · subst y; exact H.own (d, o) (List.mem_of_getElem? hi)
  nodup := by
    have e : (l.set i (d, o')).map (·.1) = l.map (·.1) := by
      rw [List.map_set]
      refine List.ext_getElem (by first | walk_at "mem" | simp) fun j h1 h2 => ?_
      rw [List.getElem_set]
      split
      · rename_i e; subst e
        have hi' : i < l.length := by simpa using h2
        rw [List.getElem?_eq_getElem hi'] at hi
        have := Option.some.inj hi
        simp [this]
      · rfl
    rw [e]; exact H.nodup
  offL := by
    have e : (l.set i (d, o')).map (·.1) = l.map (·.1) := by
      rw [List.map_set]
      refine List.ext_getElem (by first | walk_at "mem" | simp) fun j h1 h2 => ?_
      rw [List.getElem_set]
      split
      · rename_i e; subst e
        have hi' : i < l.length := by simpa using h2
        rw [List.getElem?_eq_getElem hi'] at hi
        have := Option.some.inj hi
        simp [this]
      · rfl
    rw [e]; exact H.offL
  newL := H.newL
  dl := by
    have e : (l.set i (d, o')).map (·.1) = l.map (·.1) := by
      rw [List.map_set]
      refine List.ext_getElem (by first | walk_at "mem" | simp) fun j h1 h2 => ?_
      rw [List.getElem_set]
      split
      · rename_i e; subst e
        have hi' : i < l.length := by simpa using h2
        rw [List.getElem?_eq_getElem hi'] at hi
        have := Option.some.inj hi
        simp [this]
      · rfl
    rw [e]; exact H.dl

theorem S.drop {l' : List (Addr × Obj)} (H : S h₀ D L m l h) (hs : l'.Sublist l) (hd : ∀ d ∈ D, d ∈ l'.map (·.1)) : S h₀ D L m l' h where
  base := H.base
  ns := H.ns
  led := fun p hp => H.led p (hs.subset hp)
  own := fun p hp => H.own p (hs.subset hp)
  nodup := (hs.map _).nodup H.nodup
  offL := fun q => H.offL ((hs.map _).subset q)
  newL := H.newL
  dl := hd
end Mine

end
local macro_rules | `(tactic| walk_at "mem") => `(tactic| first | with_reducible exact List.mem_cons_self | (with_reducible refine List.mem_cons_of_mem _ ?_; walk_at "mem") | (with_reducible refine List.mem_append_left _ ?_; walk_at "mem") | (with_reducible refine List.mem_append_right _ ?_; walk_at "mem"))
section
open PySem PySem.W PyProof.Rows
set_option Elab.async false
set_option linter.unusedVariables false
set_option maxRecDepth 100000
namespace Mine
section
variable {prog : Program} {w : World} {A : Around} {α β : Type} {h h' : Heap} {env : Env}

noncomputable def T (prog : Program) (w : World) (A : Around) {α : Type} (t : Sem α) (h : Heap) (Q : α → Heap → Prop) : Prop :=
  ∀ s : Shared, s.heap = h → wpAny (model prog w) A t (fun a s' => ∃ h' tk, s' = { s with heap := h', toks := tk } ∧ Q a h') (fun _ _ => False) s

noncomputable def TC (prog : Program) (w : World) (A : Around) (c : Code) (h : Heap) (Q : Value → Heap → Prop) : Prop :=
  ∀ s : Shared, s.heap = h → codeAny (model prog w) A c (fun r s' => ∃ v h' tk, r = .ok (.ret v) ∧ s' = { s with heap := h', toks := tk } ∧ Q v h') s

theorem T.pure {a : α} {Q : α → Heap → Prop} (q : Q a h) : T prog w A (Pure.pure a) h Q := fun s e => wpAny_pure ⟨s.heap, s.toks, rfl, e ▸ q⟩
theorem T.bind {t : Sem α} {f : α → Sem β} {Q : β → Heap → Prop} (x : T prog w A t h fun a h' => T prog w A (f a) h' Q) : T prog w A (t >>= f) h Q := fun s e =>
  wpAny_bind (wpAny_mono (x s e) (by
    rintro a s' ⟨h', tk, rfl, y⟩
    exact wpAny_mono (y _ rfl) (by rintro b s'' ⟨h'', tk', rfl, z⟩; exact ⟨h'', tk', rfl, z⟩) fun _ _ z => z) fun _ _ z => z.elim)
theorem T.mono {t : Sem α} {Q Q' : α → Heap → Prop} (x : T prog w A t h Q) (q : ∀ a h', Q a h' → Q' a h') : T prog w A t h Q' := fun s e =>
  wpAny_mono (x s e) (by rintro a s' ⟨h', tk, rfl, y⟩; exact ⟨h', tk, rfl, q _ _ y⟩) fun _ _ z => z
theorem T.eq {t t' : Sem α} {Q : α → Heap → Prop} (e : t = t') (x : T prog w A t' h Q) : T prog w A t h Q := e ▸ x
theorem T.holding {vs : List Value} {t : Sem α} {Q : α → Heap → Prop} (x : T prog w A t h Q) : T prog w A (holding vs t) h Q := fun s e => wpAny_holding (x s e)
theorem T.standAt {p : Pos} {Q : Unit → Heap → Prop} (q : Q () h) : T prog w A (standAt p) h Q := fun s e => wpAny_standAt ⟨s.heap, s.toks, rfl, e ▸ q⟩
theorem T.call {f : Value} {pos : List Value} {kw : List (Str × Value)} {Q : Value → Heap → Prop} (x : TC prog w A (.call f ⟨pos, kw⟩) h Q) : T prog w A (call f pos kw) h Q := fun s e =>
  wpAny_call (codeAny_mono (x s e) (by rintro r s' ⟨v, h', tk, rfl, rfl, q⟩; exact ⟨h', tk, rfl, q⟩))
theorem T.execs_nil {Q : Flow → Heap → Prop} (q : Q .next h) : T prog w A (execs [] env) h Q := fun s e => wpAny_execs_nil ⟨s.heap, s.toks, rfl, e ▸ q⟩
theorem T.execs_cons {st : Stmt} {rest : List Stmt} {Q : Flow → Heap → Prop} (x : T prog w A (exec st env) h fun f h' => match f with | .next => T prog w A (execs rest env) h' Q | f => Q f h') :
    T prog w A (execs (st :: rest) env) h Q := fun s e => wpAny_execs_cons (wpAny_mono (x s e) (by
    rintro f s' ⟨h', tk, rfl, y⟩
    cases f with
    | next => exact wpAny_mono (y _ rfl) (by rintro b s'' ⟨h'', tk', rfl, z⟩; exact ⟨h'', tk', rfl, z⟩) fun _ _ z => z
    | brk => exact ⟨_, _, rfl, y⟩
    | cont => exact ⟨_, _, rfl, y⟩
    | ret v => exact ⟨_, _, rfl, y⟩) fun _ _ z => z)
theorem T.Assign_Name {x : Str} {px pos : Pos} {value : PySem.Expr} {Q : Flow → Heap → Prop} (t : T prog w A (eval value env) h fun v h' => T prog w A (storeName env x v) h' fun _ => Q .next)
    (hs : swapsWith value (some (.Name x px)) pos.line env = Pure.pure false := by rfl) : T prog w A (exec (.Assign [.Name x px] value pos) env) h Q := fun s e =>
  wpAny_Assign_Name (wpAny_mono (t s e) (by
    rintro v s' ⟨h', tk, rfl, y⟩
    exact wpAny_mono (y _ rfl) (by rintro b s'' ⟨h'', tk', rfl, z⟩; exact ⟨h'', tk', rfl, z⟩) fun _ _ z => z) fun _ _ z => z) hs
theorem T.If {test : PySem.Expr} {body orelse : List Stmt} {pos : Pos} {Q : Flow → Heap → Prop} (t : T prog w A (isTrue test env (eval test env)) h fun b h' => if b = true then T prog w A (execs body env) h' Q else T prog w A (execs orelse env) h' Q) :
    T prog w A (exec (.If test body orelse pos) env) h Q := fun s e =>
  wpAny_If (wpAny_mono (t s e) (by
    rintro b s' ⟨h', tk, rfl, y⟩
    cases b with
    | true => exact wpAny_mono (y _ rfl) (by rintro b s'' ⟨h'', tk', rfl, z⟩; exact ⟨h'', tk', rfl, z⟩) fun _ _ z => z
    | false => exact wpAny_mono (y _ rfl) (by rintro b s'' ⟨h'', tk', rfl, z⟩; exact ⟨h'', tk', rfl, z⟩) fun _ _ z => z) fun _ _ z => z)
theorem T.Return0 {pos : Pos} {Q : Flow → Heap → Prop} (q : Q (.ret .none) h) : T prog w A (exec (.Return none pos) env) h Q := fun s e => wpAny_Return_none ⟨s.heap, s.toks, rfl, e ▸ q⟩
theorem T.Expr {e : PySem.Expr} {pos : Pos} {Q : Flow → Heap → Prop} (t : T prog w A (eval e env) h fun v h' => (∀ a, v ≠ .ref a) ∧ Q .next h') (hi : interactive env = false := by rfl) (hs : swapsWith e none pos.line env = Pure.pure false := by rfl) :
    T prog w A (exec (.Expr e pos) env) h Q := fun s e =>
  wpAny_Expr (wpAny_mono (t s e) (by
    rintro v s' ⟨h', tk, rfl, n, y⟩
    cases v with
    | ref a => exact n a rfl
    | _ => exact ⟨_, _, rfl, y⟩) fun _ _ z => z) hi hs
theorem T.cInt {i : Int} {k : Nat} {pos : Pos} {Q : Value → Heap → Prop} (q : ∀ t, Q (.int i t) h) : T prog w A (eval (.Constant (.int i) k pos) env) h Q := fun s e => wpAny_Constant_int ⟨s.heap, s.toks + 1, rfl, e ▸ q _⟩
theorem T.BinOp {a b : PySem.Expr} {op : Operator} {pos : Pos} {Q : Value → Heap → Prop} (t : T prog w A (eval a env) h fun x h₁ => T prog w A (eval b env) h₁ fun y h₂ => T prog w A (binaryOp op x y) h₂ Q) :
    T prog w A (eval (.BinOp a op b pos) env) h Q := fun s e => wpAny_BinOp (wpAny_mono (t s e) (by
    rintro v s' ⟨h', tk, rfl, y⟩
    refine wpAny_mono (y _ rfl) (by
      rintro b s'' ⟨h'', tk', rfl, z⟩
      exact wpAny_mono (z _ rfl) (by rintro b s'' ⟨h'', tk', rfl, z⟩; exact ⟨h'', tk', rfl, z⟩) fun _ _ z => z) fun _ _ z => z) fun _ _ z => z)
theorem T.isTrue_Compare {a b : PySem.Expr} {op : CmpOp} {pos : Pos} {whole : Sem Value} {Q : Bool → Heap → Prop} (t : T prog w A (eval a env) h fun x h₁ => T prog w A (eval b env) h₁ fun y h₂ => T prog w A (compareOp op x y) h₂ fun c h₃ => T prog w A (truthy c) h₃ Q)
    (hm : behindInMarks op b = false := by with_unfolding_all rfl) : T prog w A (isTrue (.Compare a [op] [b] pos) env whole) h Q := fun s e => wpAny_isTrue_Compare1 (wpAny_mono (t s e) (by
    rintro v s' ⟨h', tk, rfl, y⟩
    refine wpAny_mono (y _ rfl) (by
      rintro b s'' ⟨h'', tk', rfl, z⟩
      refine wpAny_mono (z _ rfl) (by
        rintro b s'' ⟨h'', tk', rfl, z⟩
        exact wpAny_mono (z _ rfl) (by rintro b s'' ⟨h'', tk', rfl, z⟩; exact ⟨h'', tk', rfl, z⟩) fun _ _ z => z) fun _ _ z => z) fun _ _ z => z) fun _ _ z => z) hm
theorem T.truthy_bool {b : Bool} {Q : Bool → Heap → Prop} (q : Q b h) : T prog w A (truthy (.bool b)) h Q := fun s e => wpAny_truthy_bool ⟨s.heap, s.toks, rfl, e ▸ q⟩
end
end Mine

end
section
open PySem PySem.W PyProof.Rows PySem.Calls
set_option Elab.async false
set_option linter.unusedVariables false
set_option maxRecDepth 100000
namespace Mine
noncomputable def upd (m : Str → Option Value) (x : Str) (v : Value) : Str → Option Value := fun y => if y = x then some v else m y
theorem upd_here {m : Str → Option Value} {x : Str} {v : Value} : upd m x v x = some v := by simp [upd]
theorem upd_next {m : Str → Option Value} {x y : Str} {u : Value} {r : Option Value} (n : y ≠ x) (e : m y = r) : upd m x u y = r := by simp [upd, n, e]
local macro_rules | `(tactic| walk_at "look") => `(tactic| first | assumption | with_reducible exact upd_here | (with_reducible refine upd_next (by decide +kernel) ?_; walk_at "look"))

section
variable {prog : Program} {w : World} {A : Around} {h h' h₀ : Heap} {env : Env} {D : List Addr} {m : Str → Option Value} {l : List (Addr × Obj)}

structure EnvOk (env : Env) : Prop where
  kind : env.scope.kind = .function
  glob : env.globals = mainGlobals
  blt : env.builtins = builtinsNs
  inter : interactive env = false

theorem notTop (e : EnvOk env) : (env.scope.kind == .class || (env.scope.kind == .module && env.locals != env.globals)) = false := by rw [e.kind]; rfl
theorem T.loadName {x : Str} {v : Value} {Q : Value → Heap → Prop} (e : EnvOk env) (H : S h₀ D env.locals m l h) (hv : m x = some v) (q : Q v h) (hl : env.kindOf x = some .local) : T prog w A (loadName env x) h Q :=
  fun s es => by subst es; exact wpAny_loadName_local e.kind hl H.ns hv ⟨s.heap, s.toks, rfl, q⟩
theorem T.Name {x : Str} {pos : Pos} {v : Value} {Q : Value → Heap → Prop} (e : EnvOk env) (H : S h₀ D env.locals m l h) (hv : m x = some v) (q : Q v h) (hl : env.kindOf x = some .local) (hd : (x == ("__debug__" : Str)) = false) :
    T prog w A (eval (.Name x pos) env) h Q := fun s es => wpAny_Name (T.loadName e H hv q hl s es) hd
theorem T.storeName {x : Str} {v : Value} {Q : Unit → Heap → Prop} (e : EnvOk env) (H : S h₀ D env.locals m l h) (q : ∀ h', S h₀ D env.locals (upd m x v) l h' → Q () h') (hl : env.kindOf x = some .local) : T prog w A (storeName env x v) h Q :=
  fun s es => by subst es; exact wpAny_storeName_local hl H.ns (fun h' hn hs => ⟨h', _, rfl, q h' (H.store hn hs)⟩) (notTop e)

structure Gr (K : Frag) (h : Heap) : Prop where
  k : K.In h
  g : ∃ mg, h.Ns mainGlobals mg
  b : ∃ mb, h.Ns builtinsNs mb ∧ ∀ x : Str, x ≠ "__name__" → mb x = bootBuiltins x
  nolimit : h.NoLimit
theorem Gr.sub {K : Frag} (G : Gr K h) (x : Sub [] h h') : Gr K h' where
  k := G.k.keeps x.keep
  g := G.g.imp fun mg n => n.keeps x.keep
  b := G.b.imp fun mb n => ⟨n.1.keeps x.keep, n.2⟩
  nolimit := G.nolimit.keeps x.keep
theorem S.gr {K : Frag} (H : S h₀ [] L m l h) (G : Gr K h₀) : Gr K h := G.sub H.base

theorem T.global {K : Frag} {x : Str} {pos : Pos} {v : Value} {Q : Value → Heap → Prop} (e : EnvOk env) (G : Gr K h) (hv : nsIn K mainGlobals x = some (some v)) (q : Q v h) (hl : env.kindOf x = some .globalImplicit) (hd : (x == ("__debug__" : Str)) = false) :
    T prog w A (eval (.Name x pos) env) h Q := fun s es => by
  subst es
  obtain ⟨mg, hg⟩ := G.g
  exact Name_function_global e.kind hl (loadGlobal_global (e.glob ▸ hg) (mg_of G.k hg hv) ⟨s.heap, s.toks, rfl, q⟩) hd
theorem T.builtin {K : Frag} {x : Str} {pos : Pos} {v : Value} {Q : Value → Heap → Prop} (e : EnvOk env) (G : Gr K h) (hn : nsIn K mainGlobals x = some none) (hv : bootBuiltins x = some v) (q : Q v h) (hl : env.kindOf x = some .globalImplicit) (hd : (x == ("__debug__" : Str)) = false) (hx : x ≠ "__name__") :
    T prog w A (eval (.Name x pos) env) h Q := fun s es => by
  subst es
  obtain ⟨mg, hg⟩ := G.g
  obtain ⟨mb, hb, hbe⟩ := G.b
  exact Name_function_global e.kind hl (loadGlobal_builtin (e.glob ▸ hg) (mg_none_of G.k hg hn) (e.blt ▸ hb) ((hbe x hx).trans hv) ⟨s.heap, s.toks, rfl, q⟩) hd

variable {a b : Int} {t u : Tok}
theorem T.add {Q : Value → Heap → Prop} (q : ∀ t, Q (.int (a + b) t) h) : T prog w A (binaryOp .Add (.int a t) (.int b u)) h Q := fun s es => by subst es; exact PyProof.Rows.add_int ⟨_, _, rfl, q _⟩
theorem T.sub {Q : Value → Heap → Prop} (q : ∀ t, Q (.int (a - b) t) h) : T prog w A (binaryOp .Sub (.int a t) (.int b u)) h Q := fun s es => by subst es; exact PyProof.Rows.sub_int ⟨_, _, rfl, q _⟩
theorem T.mod {Q : Value → Heap → Prop} (hb : b ≠ 0) (q : ∀ t, Q (.int (a.fmod b) t) h) : T prog w A (binaryOp .Mod (.int a t) (.int b u)) h Q := fun s es => by subst es; exact PyProof.Rows.mod_int hb ⟨_, _, rfl, q _⟩
theorem T.gt {Q : Value → Heap → Prop} (q : Q (.bool (decide (b < a))) h) : T prog w A (compareOp .Gt (.int a t) (.int b u)) h Q := fun s es => by subst es; exact PyProof.Rows.gt_int ⟨_, s.toks, rfl, q⟩
theorem T.ge {Q : Value → Heap → Prop} (q : Q (.bool (decide (b ≤ a))) h) : T prog w A (compareOp .GtE (.int a t) (.int b u)) h Q := fun s es => by subst es; exact PyProof.Rows.ge_int ⟨_, s.toks, rfl, q⟩
theorem T.cNone {k : Nat} {pos : Pos} {Q : Value → Heap → Prop} (q : Q .none h) : T prog w A (eval (.Constant .none k pos) env) h Q := fun s es => fun _ _ _ => ⟨s.heap, s.toks, rfl, es ▸ q⟩
theorem T.cStr {x : Str} {k : Nat} {pos : Pos} {Q : Value → Heap → Prop} (q : ∀ t, Q (.str x t) h) : T prog w A (eval (.Constant (.str x) k pos) env) h Q := fun s es => Constant_str ⟨s.heap, s.toks + 1, rfl, es ▸ q _⟩
theorem T.cBool {b : Bool} {k : Nat} {pos : Pos} {Q : Value → Heap → Prop} (q : Q (.bool b) h) : T prog w A (eval (.Constant (.bool b) k pos) env) h Q := fun s es => fun _ _ _ => ⟨s.heap, s.toks, rfl, es ▸ q⟩
end
end Mine

end
local macro_rules | `(tactic| walk_at "look") => `(tactic| first | assumption | with_reducible exact Mine.upd_here | (with_reducible refine Mine.upd_next (by decide +kernel) ?_; walk_at "look"))
section
open PySem PySem.W PyProof.Rows PySem.Calls
set_option Elab.async false
set_option linter.unusedVariables false
set_option maxRecDepth 100000
namespace Mine
section
variable {prog : Program} {w : World} {A : Around} {h h' h₀ : Heap} {env : Env} {D : List Addr} {m : Str → Option Value} {l : List (Addr × Obj)}

noncomputable def TF (prog : Program) (w : World) (A : Around) (c : Code) (h : Heap) (Q : Flow → Heap → Prop) : Prop :=
  ∀ s : Shared, s.heap = h → codeAny (model prog w) A c (fun r s' => ∃ f h' tk, r = .ok f ∧ s' = { s with heap := h', toks := tk } ∧ Q f h') s

theorem T.For {target iter : PySem.Expr} {body : List Stmt} {pos : Pos} {Q : Flow → Heap → Prop}
    (x : T prog w A (eval iter env) h fun v h₁ => T prog w A (pyIter v) h₁ fun it h₂ => TF prog w A (.forLoop target it body [] env) h₂ Q)
    (hs : ∀ x, foldedSetIterable iter env x = Pure.pure x := by intro _; rfl) : T prog w A (exec (.For target iter body [] pos) env) h Q := fun s e =>
  wpAny_For (wpAny_mono (x s e) (by
    rintro v s₁ ⟨h₁, t₁, rfl, y⟩
    refine wpAny_mono (y _ rfl) (by
      rintro it s₂ ⟨h₂, t₂, rfl, z⟩
      exact codeAny_mono (z _ rfl) (by rintro r s₃ ⟨f, h₃, t₃, rfl, rfl, q⟩; exact ⟨h₃, t₃, rfl, q⟩)) fun _ _ z => z) fun _ _ z => z) hs

theorem TF.forLoop {target : PySem.Expr} {it : Value} {body : List Stmt} {Q : Flow → Heap → Prop} (I : Nat → Heap → Prop)
    (turn : ∀ n h, I n h → T prog w A (pyNext it) h fun r h₁ => match r with
      | none => Q .next h₁
      | some v => T prog w A (letOwnedTupleGo target it v) h₁ fun _ h₁ => T prog w A (assign target env v) h₁ fun _ h₂ => T prog w A (execs body env) h₂ fun f h₃ => match f with
          | .next | .cont => ∃ m, m < n ∧ I m h₃
          | .brk => Q .next h₃
          | .ret v => Q (.ret v) h₃)
    (n : Nat) (hI : I n h) : TF prog w A (.forLoop target it body [] env) h Q := fun s e => by
  subst e
  refine codeAny_forLoop_any (fun n s' => ∃ h' tk, s' = { s with heap := h', toks := tk } ∧ I n h') ?_ n ⟨s.heap, s.toks, rfl, hI⟩
  rintro n s' ⟨h', tk, rfl, hI⟩
  refine wpAny_mono (turn n h' hI _ rfl) (by
    rintro r s₁ ⟨h₁, t₁, rfl, y⟩
    cases r with
    | none => exact wpAny_execs_nil ⟨_, _, _, rfl, rfl, y⟩
    | some v =>
      refine wpAny_mono (y _ rfl) (by
        rintro _ s₁ ⟨h₁, t₁, rfl, y⟩
        refine wpAny_mono (y _ rfl) (by
          rintro _ s₂ ⟨h₂, t₂, rfl, z⟩
          refine wpAny_mono (z _ rfl) (by
            rintro f s₃ ⟨h₃, t₃, rfl, q⟩
            cases f with
            | next => exact q.imp fun k x => ⟨x.1, h₃, t₃, rfl, x.2⟩
            | cont => exact q.imp fun k x => ⟨x.1, h₃, t₃, rfl, x.2⟩
            | brk => exact ⟨_, _, _, rfl, rfl, q⟩
            | ret v => exact ⟨_, _, _, rfl, rfl, q⟩) fun _ _ z => z.elim) fun _ _ z => z.elim) fun _ _ z => z.elim) fun _ _ z => z.elim

end
end Mine

end
section
open PySem PySem.W PyProof.Rows PySem.Calls
set_option Elab.async false
set_option linter.unusedVariables false
set_option maxRecDepth 100000
namespace Mine
section
variable {prog : Program} {w : World} {A : Around} {h h' h₀ : Heap} {env : Env} {D : List Addr} {m : Str → Option Value} {l : List (Addr × Obj)}

noncomputable def TArgs (prog : Program) (w : World) (A : Around) (env : Env) : List PySem.Expr → Heap → (List Value → Heap → Prop) → Prop
  | [], h, Q => Q [] h
  | e :: r, h, Q => T prog w A (eval e env) h fun v h₁ => TArgs prog w A env r h₁ fun vs h₂ => Q (v :: vs) h₂
theorem TArgs.mono : ∀ {es : List PySem.Expr} {h : Heap} {Q Q' : List Value → Heap → Prop}, TArgs prog w A env es h Q → (∀ vs h, Q vs h → Q' vs h) → TArgs prog w A env es h Q'
  | [], _, _, _, x, q => q _ _ x
  | _ :: _, _, _, _, x, q => T.mono x fun _ _ y => TArgs.mono y fun _ _ z => q _ _ z

theorem TArgs.wp (hs : ∀ e ∈ es, ∀ v p, e ≠ .Starred v p) {pos : Pos} {Q : List Value → Heap → Prop} (x : TArgs prog w A env es h Q) : T prog w A (spliced (backTo pos (starEach es env))) h Q := by
  induction es generalizing h Q with
  | nil => intro s e; subst e; exact spliced_nil ⟨_, s.toks, rfl, x⟩
  | cons e r ih =>
    have he : starEach (e :: r) env = (false, eval e env) :: starEach r env := by
      cases e <;> first | rfl | exact absurd rfl (hs _ (.head _) _ _)
    rw [he]
    intro s es
    refine spliced_cons (wpAny_mono (T.mono x (fun v h₁ y => ih (fun e he => hs e (.tail _ he)) y) s es) (by
      rintro v s₁ ⟨h₁, t₁, rfl, y⟩
      exact wpAny_mono (y _ rfl) (by rintro vs s₂ ⟨h₂, t₂, rfl, z⟩; exact ⟨h₂, t₂, rfl, z⟩) fun _ _ z => z) fun _ _ z => z)

noncomputable def noStars (es : List PySem.Expr) : Bool := es.all fun e => match e with | .Starred .. => false | _ => true
theorem noStars_of {es : List PySem.Expr} (x : noStars es = true) : ∀ e ∈ es, ∀ v p, e ≠ .Starred v p := fun e he v p q => by
  subst q
  have := List.all_eq_true.mp x _ he
  cases this

noncomputable def Keeps (prog : Program) (w : World) (f : Value) (h : Heap) : Prop := ∃ k, (k = Keeper.frame ∨ k = Keeper.machine ∨ k = Keeper.boundFrame) ∧ Looks (model prog w) h (keeperOf f) k
theorem Keeps.builtin {id : String} : Keeps prog w (.builtin id) h := ⟨_, .inr (.inl rfl), Looks.of_pure rfl⟩
theorem Keeps.type {n : String} : Keeps prog w (.type n) h := ⟨_, .inr (.inl rfl), Looks.of_pure rfl⟩
theorem Keeps.frag {K : Frag} {f : Value} (X : K.In h) (hk : keepIn K f = true) : Keeps prog w f h := keeps_K hk _ X
theorem Keeps.bound {a : Addr} {ob : Obj} {vs : Array Value} (ho : h.get? a = some ob) (hc : ob.cls = .type "builtin_function_or_method") (hd : ob.data = .fields vs) : Keeps prog w (.ref a) h := by
  refine ⟨_, .inr (.inl rfl), ?_⟩
  obtain ⟨c, d, dt, sl⟩ := ob
  cases hc; cases hd
  exact (Looks.ld (part := none) ho).andThen .now

theorem T.callWith {pos : Pos} {f : Value} {first : List Value} {es : List PySem.Expr} {Q : Value → Heap → Prop}
    (x : TArgs prog w A env es h fun vs h₁ => Keeps prog w f h₁ ∧ T prog w A (PySem.call f (first ++ vs)) h₁ Q) (hs : noStars es = true) :
    T prog w A (callWith pos f first (backTo pos (starEach es env)) []) h Q := fun s e => by
  have hplain : ((backTo pos (starEach es env)).any (·.1) || ([] : List (Option Str × Sem Value)).any (·.1.isNone)) = false := by
    have : ∀ es : List PySem.Expr, noStars es = true → (backTo pos (starEach es env)).any (·.1) = false := by
      intro es hs
      induction es with
      | nil => rfl
      | cons e r ih =>
        have he : starEach (e :: r) env = (false, eval e env) :: starEach r env := by
          cases e <;> first | rfl | exact absurd rfl (noStars_of hs _ (.head _) _ _)
        rw [he]
        have hr : noStars r = true := by
          unfold noStars at hs ⊢
          rw [List.all_cons, Bool.and_eq_true] at hs
          exact hs.2
        show (false || (backTo pos (starEach r env)).any (·.1)) = false
        rw [ih hr]; rfl
    rw [this es hs]; rfl
  refine callWith_of (P := fun h => Keeps prog w f h) hplain (fun h k => k) ?_
  cases es with
  | nil =>
    refine evalArgs_nil3 ?_
    subst e
    exact ⟨x.1, wpAny_mono (x.2 s rfl) (by rintro vs s₂ ⟨h₂, t₂, rfl, z⟩; exact ⟨h₂, t₂, rfl, z⟩) fun _ _ z => z⟩
  | cons e₁ r =>
    have he : starEach (e₁ :: r) env = (false, eval e₁ env) :: starEach r env := by
      cases e₁ <;> first | rfl | exact absurd rfl (noStars_of hs _ (.head _) _ _)
    have y := TArgs.wp (pos := pos) (noStars_of hs) x s e
    rw [he] at y ⊢
    refine evalArgs_plain (wpAny_mono y (by
      rintro vs s₁ ⟨h₁, t₁, rfl, k, z⟩
      exact ⟨k, wpAny_mono (z _ rfl) (by rintro vs s₂ ⟨h₂, t₂, rfl, z⟩; exact ⟨h₂, t₂, rfl, z⟩) fun _ _ z => z⟩) fun _ _ z => z)

theorem T.Call_Name {x : Str} {p pos : Pos} {es : List PySem.Expr} {Q : Value → Heap → Prop} (t : T prog w A (eval (.Name x p) env) h fun f h₁ => T prog w A (PySem.callWith pos f [] (backTo pos (starEach es env)) []) h₁ Q) :
    T prog w A (eval (.Call (.Name x p) es [] pos) env) h Q := fun s e => PyProof.Rows.Call_Name rfl (wpAny_mono (t s e) (by
      rintro vs s₁ ⟨h₁, t₁, rfl, z⟩
      exact wpAny_mono (z _ rfl) (by rintro vs s₂ ⟨h₂, t₂, rfl, z⟩; exact ⟨h₂, t₂, rfl, z⟩) fun _ _ z => z) fun _ _ z => z)
theorem T.Call_method {o : PySem.Expr} {name : Str} {apos pos : Pos} {es : List PySem.Expr} {pl : Sem Bool} {Q : Value → Heap → Prop}
    (t : T prog w A (eval o env) h fun ov h₁ => T prog w A (getMethod ov name pl) h₁ fun fx h₂ => T prog w A (PySem.callWith pos fx.1 fx.2 (backTo pos (starEach es env)) []) h₂ Q)
    (he : eval (.Call (.Attribute o name apos) es [] pos) env = (do
      let ov ← eval o env
      PySem.standAt apos.atName
      let (f, first) ← PySem.holding [ov] (getMethod ov name pl)
      PySem.callWith pos f first (backTo pos (starEach es env)) (backToKw pos (keywordEach [] env))) := by rfl) :
    T prog w A (eval (.Call (.Attribute o name apos) es [] pos) env) h Q := fun s e => methodCall_KW (pl := pl) (wpAny_mono (t s e) (by
      rintro ov s₁ ⟨h₁, t₁, rfl, z⟩
      exact wpAny_mono (z _ rfl) (by
        rintro fx s₂ ⟨h₂, t₂, rfl, z⟩
        exact wpAny_mono (z _ rfl) (by rintro vs s₂ ⟨h₂, t₂, rfl, z⟩; exact ⟨h₂, t₂, rfl, z⟩) fun _ _ z => z) fun _ _ z => z) fun _ _ z => z) he
theorem T.Attribute {o : PySem.Expr} {name : Str} {pos : Pos} {Q : Value → Heap → Prop} (t : T prog w A (eval o env) h fun ov h₁ => T prog w A (getAttr ov name true) h₁ Q)
    (he : eval (.Attribute o name pos) env = (do
      let ov ← eval o env
      PySem.standAt pos.atName
      let r ← PySem.holding [ov] (getAttr ov name true)
      letTemporaryGo o ov r
      Pure.pure r) := by with_unfolding_all rfl) : T prog w A (eval (.Attribute o name pos) env) h Q := fun s e => Attribute_any_ (wpAny_mono (t s e) (by
      rintro ov s₁ ⟨h₁, t₁, rfl, z⟩
      exact wpAny_mono (z _ rfl) (by rintro vs s₂ ⟨h₂, t₂, rfl, z⟩; exact ⟨h₂, t₂, rfl, z⟩) fun _ _ z => z) fun _ _ z => z) he

noncomputable def bindM (bs : List (Str × Value)) : Str → Option Value := bs.foldl (fun m p => upd m p.1 p.2) fun _ => none
theorem bindM_eq (bs : List (Str × Value)) : (fun x => bs.reverse.lookup x) = bindM bs := by
  have : ∀ (bs : List (Str × Value)) (m : Str → Option Value), bs.foldl (fun m p => upd m p.1 p.2) m = fun x => (bs.reverse.lookup x).or (m x) := by
    intro bs
    induction bs with
    | nil => intro m; funext x; simp
    | cons p r ih =>
      intro m
      rw [List.foldl_cons, ih]
      funext x
      rw [List.reverse_cons, List.lookup_append]
      cases r.reverse.lookup x with
      | some v => simp
      | none =>
        simp only [Option.none_or, upd, List.lookup]
        by_cases e : x = p.1
        · subst e; simp
        · have : (x == p.1) = false := by simpa using e
          simp [e, this]
  funext x
  unfold bindM
  rw [this]
  simp

theorem TC.fn {f : Addr} {o : Obj} {fd : FuncData} {body : List Stmt} {args : Args} {binds : List (Str × Value)} {Q : Value → Heap → Prop} (lD : List (Addr × Obj))
    (hroom : A.depth < recursionLimit) (ho : h.get? f = some o) (hdata : o.data = .func fd) (hlim : h.NoLimit) (hcd : h.CodeRec fd.code fd.qualname) (hbody : fd.body = .stmts body) (hbind : bindArgs fd args = Pure.pure binds)
    (hcell : ∀ x ∈ fd.scope.names, x.2 ≠ .cell) (hloc : ∀ x ∈ binds, fd.scope.names.lookup x.1 = some .local)
    (hl : ∀ p ∈ lD, h.get? p.1 = some p.2) (nd : (lD.map (·.1)).Nodup)
    (k : ∀ h₁ L, S h (lD.map (·.1)) L (bindM binds) lD h₁ → h.get? L = none → T prog w (A.deeper (callEnv fd L f)) (execs body (callEnv fd L f)) h₁ fun fl h' => Q (match fl with | .ret v => v | _ => .none) h')
    (hco : fd.scope.isCoroutine = false) (hgen : fd.scope.isGenerator = false) (hk : fd.scope.kind = .function) : TC prog w A (.call (.ref f) args) h Q := fun s e => by
  subst e
  refine codeAny_call_def (binds := binds) hroom ho hdata hlim hcd hbody (BindsTo.of_eq hbind) hcell hloc (fun h₁ hns hkeep => ?_) hco hgen hk
  have H : S s.heap (lD.map (·.1)) s.heap.objs.size (bindM binds) lD h₁ := {
    base := fun b o _ e => hkeep b o e
    ns := by rw [← bindM_eq]; exact hns
    led := fun p hp => hkeep _ _ (hl p hp)
    own := fun p hp => .inl (List.mem_map_of_mem hp)
    nodup := nd
    offL := fun q => by
      obtain ⟨p, hp, e⟩ := List.mem_map.mp q
      have := hl p hp
      rw [e, get_size_none] at this; cases this
    newL := get_size_none _
    dl := fun d hd => hd }
  refine wpAny_mono (k h₁ _ H (get_size_none _) _ rfl) (by
    rintro fl s' ⟨h', tk, rfl, q⟩
    exact ⟨_, _, _, rfl, rfl, q⟩) fun _ _ z => z.elim
end
end Mine

end
section
open PySem PySem.W PyProof.Rows PySem.Calls
set_option Elab.async false
set_option linter.unusedVariables false
set_option maxRecDepth 100000
namespace Mine
section
variable {prog : Program} {w : World} {A : Around} {h h' h₀ : Heap} {env : Env} {D : List Addr} {L : Addr} {m m' : Str → Option Value} {l : List (Addr × Obj)}

noncomputable def noHeap : Heap := {}
noncomputable def allBut (h : Heap) (L : Addr) : List (Addr × Obj) := (List.range h.objs.size).filterMap fun a => if a = L then none else (h.get? a).map fun o => (a, o)
theorem mem_allBut {a : Addr} {o : Obj} : (a, o) ∈ allBut h L ↔ a ≠ L ∧ h.get? a = some o := by
  unfold allBut
  rw [List.mem_filterMap]
  constructor
  · rintro ⟨b, _, e⟩
    split at e
    · cases e
    · rename_i n
      obtain ⟨o', e1, e2⟩ := Option.map_eq_some_iff.mp e
      cases e2
      exact ⟨n, e1⟩
  · rintro ⟨n, e⟩
    exact ⟨a, List.mem_range.mpr (Heap.lt_size e), by simp [n, e]⟩
theorem allBut_nodup : ((allBut h L).map (·.1)).Nodup := by
  unfold allBut
  rw [List.map_filterMap]
  have : (List.range h.objs.size).filterMap (fun a => Option.map (·.1) (if a = L then none else (h.get? a).map fun o => (a, o))) = (List.range h.objs.size).filter fun a => decide (a ≠ L) && (h.get? a).isSome := by
    rw [← List.filterMap_eq_filter]
    congr 1
    funext a
    by_cases e : a = L
    · simp [e, Option.guard]
    · cases q : h.get? a <;> simp [e, q, Option.guard]
  rw [this]
  exact (List.nodup_range).sublist List.filter_sublist
theorem noHeap_get (a : Addr) : noHeap.get? a = none := rfl
theorem frAll (hn : h.Ns L m) : Fr noHeap L h m := ⟨hn, fun b o e => absurd e (by rw [noHeap_get]; intro q; cases q), Nat.zero_le _⟩
theorem newsAll : News noHeap L h (allBut h L) := fun p hp => ⟨(mem_allBut.mp hp).2, (mem_allBut.mp hp).1, noHeap_get _⟩
theorem all_split {d : Addr} {o : Obj} (ho : h.get? d = some o) (hd : d ≠ L) : ∃ pre post, allBut h L = pre ++ (d, o) :: post ∧ (∀ p ∈ pre, p.1 ≠ d) ∧ ∀ p ∈ post, p.1 ≠ d := by
  obtain ⟨pre, post, e⟩ := List.append_of_mem (mem_allBut.mpr ⟨hd, ho⟩)
  have nd := allBut_nodup (h := h) (L := L)
  rw [e, List.map_append, List.map_cons] at nd
  have nd2 := List.nodup_append.mp nd
  refine ⟨pre, post, e, fun p hp q => ?_, fun p hp q => ?_⟩
  · exact nd2.2.2 p.1 (List.mem_map_of_mem hp) d (.head _) q
  · have := (List.nodup_cons.mp nd2.2.1).1
    exact this (List.mem_map.mpr ⟨p, hp, q⟩)
theorem sub_of_news {extra : List (Addr × Obj)} (N : News noHeap L h' (extra ++ allBut h L)) : Sub [L] h h' := fun b o n e =>
  (N (b, o) (List.mem_append_right _ (mem_allBut.mpr ⟨by simpa using n, e⟩))).1
theorem sub_of_split {d : Addr} {o o' : Obj} {pre post : List (Addr × Obj)} (e : allBut h L = pre ++ (d, o) :: post) (N : News noHeap L h' (pre ++ (d, o') :: post)) : Sub [L, d] h h' ∧ h'.get? d = some o' :=
  ⟨fun b ob n eb => by
    have hm : (b, ob) ∈ allBut h L := mem_allBut.mpr ⟨fun q => n (by simp [q]), eb⟩
    rw [e] at hm
    refine (N (b, ob) ?_).1
    rcases List.mem_append.mp hm with x | x
    · exact List.mem_append_left _ x
    · rcases List.mem_cons.mp x with x | x
      · exact absurd (by cases x; simp) n
      · exact List.mem_append_right _ (.tail _ x), (N (d, o') (List.mem_append_right _ (.head _))).1⟩

theorem S.frame (H : S h₀ D L m l h) (x : Sub [L] h h') (hn : h'.Ns L m') : S h₀ D L m' l h' where
  base := fun b o n e => x b o (fun q => by
    have q : b = L := by simpa using q
    subst q; rw [H.newL] at e; cases e) (H.base b o n e)
  ns := hn
  led := fun p hp => x _ _ (fun q => H.offL (by
    have q : p.1 = L := by simpa using q
    exact List.mem_map.mpr ⟨p, hp, q⟩)) (H.led p hp)
  own := H.own
  nodup := H.nodup
  offL := H.offL
  newL := H.newL
  dl := H.dl
theorem S.frameUpd {d : Addr} {o o' : Obj} (H : S h₀ D L m l h) (i : Nat) (hi : l[i]? = some (d, o)) (x : Sub [L, d] h h') (ho : h'.get? d = some o') (hn : h'.Ns L m') : S h₀ D L m' (l.set i (d, o')) h' := by
  have H' := H.upd (h' := h') (o' := o') i hi
  have hdL : d ≠ L := fun q => H.offL (q ▸ List.mem_map.mpr ⟨_, List.mem_of_getElem? hi, rfl⟩)
  have e : (l.set i (d, o')).map (·.1) = l.map (·.1) := by
    rw [List.map_set]
    refine List.ext_getElem (by first | walk_at "mem" | simp) fun j h1 h2 => ?_
    rw [List.getElem_set]
    split
    · rename_i e; subst e
      have hi' : i < l.length := by simpa using h2
      rw [List.getElem?_eq_getElem hi'] at hi
      have := Option.some.inj hi
      simp [this]
    · rfl
  refine { base := fun b ob n eb => ?_, ns := hn, led := fun p hp => ?_, own := fun p hp => ?_, nodup := e ▸ H.nodup, offL := e ▸ H.offL, newL := H.newL, dl := e ▸ H.dl }
  · refine x b ob (fun q => ?_) (H.base b ob n eb)
    rcases List.mem_cons.mp q with q | q
    · subst q; rw [H.newL] at eb; cases eb
    · obtain rfl : b = d := by simpa using q
      rcases H.own (b, o) (List.mem_of_getElem? hi) with y | y
      · exact n y
      · rw [y] at eb; cases eb
  · obtain ⟨j, hj, rfl⟩ := List.getElem_of_mem hp
    rw [List.getElem_set] at *
    rw [List.length_set] at hj
    split
    · exact ho
    · rename_i ne
      refine x _ _ (fun q => ?_) (H.led _ (List.getElem_mem hj))
      rcases List.mem_cons.mp q with q | q
      · exact H.offL (q ▸ List.mem_map_of_mem (List.getElem_mem hj))
      · have hi' : i < l.length := by
          rcases Nat.lt_or_ge i l.length with y | y
          · exact y
          · rw [List.getElem?_eq_none y] at hi; cases hi
        have e1 : l[i] = (d, o) := by rw [List.getElem?_eq_getElem hi'] at hi; exact Option.some.inj hi
        have e2 : l[j].1 = d := by simpa using q
        have nd := List.pairwise_iff_getElem.mp H.nodup
        rcases Nat.lt_trichotomy i j with y | y | y
        · exact nd i j (by simpa using hi') (by simpa using hj) y (by simp [e1, e2])
        · exact ne y
        · exact nd j i (by simpa using hj) (by simpa using hi') y (by simp [e1, e2])
  · rcases List.mem_or_eq_of_mem_set hp with y | y
    · exact H.own p y
    · subst y; exact H.own (d, o) (List.mem_of_getElem? hi)

noncomputable def keyS : Value → Str
  | .str s _ => s
  | _ => Str.empty
noncomputable def IsAttrs (N : List Str) (od : Obj) (am : Str → Option Value) : Prop :=
  ∃ es n, od = dictOf es n ∧ (∀ x, (es.find? (·.key.isStr x)).map (·.val) = am x) ∧ (∀ e ∈ es, ∃ s ∈ N, ∃ t, e.key = .str s t) ∧ (es.map fun e => keyS e.key).Nodup
theorem IsAttrs.nil {N : List Str} : IsAttrs N (dictOf [] 0) fun _ => none := ⟨[], 0, rfl, fun _ => rfl, fun e he => (nomatch he), .nil⟩
theorem noRef {N : List Str} {es : List DictEntry} (hk : ∀ e ∈ es, ∃ s ∈ N, ∃ t, e.key = .str s t) : es.any (·.refKey) = false := by
  rw [List.any_eq_false]
  intro e he
  obtain ⟨s, _, t, e1⟩ := hk e he
  simp [DictEntry.refKey, e1]
theorem getL_of {N : List Str} {es : List DictEntry} {am : Str → Option Value} (hk : ∀ e ∈ es, ∃ s ∈ N, ∃ t, e.key = .str s t) (hf : ∀ x, (es.find? (·.key.isStr x)).map (·.val) = am x) (x : Str) : getL x es = some (am x) := by
  unfold getL
  have := hf x
  cases e : es.find? (·.key.isStr x) with
  | some en => rw [e] at this; simp only [Option.map_some] at this; rw [← this]
  | none => rw [e] at this; simp only [Option.map_none] at this; rw [← this, noRef hk]; rfl
theorem length_le_of_nodup : ∀ {l N : List Str}, l.Nodup → (∀ x ∈ l, x ∈ N) → l.length ≤ N.length
  | [], _, _, _ => Nat.zero_le _
  | a :: l, N, hn, hs => by
    have h1 := (List.nodup_cons.mp hn)
    have ha := hs a (.head _)
    have := length_le_of_nodup (l := l) (N := N.erase a) h1.2 fun x hx => by
      have ne : x ≠ a := fun q => h1.1 (by rw [← q]; exact hx)
      exact (List.mem_erase_of_ne ne).mpr (hs x (.tail _ hx))
    rw [List.length_erase_of_mem ha] at this
    have hp : 0 < N.length := List.length_pos_of_mem ha
    rw [List.length_cons]; (first | lia | omega)
theorem attrs_len {N : List Str} {es : List DictEntry} (hk : ∀ e ∈ es, ∃ s ∈ N, ∃ t, e.key = .str s t) (hn : (es.map fun e => keyS e.key).Nodup) : es.length ≤ N.length := by
  have := length_le_of_nodup hn (N := N) fun x hx => by
    obtain ⟨e, he, rfl⟩ := List.mem_map.mp hx
    obtain ⟨s, hs, t, e1⟩ := hk e he
    rw [e1]; exact hs
  simpa using this
theorem isStr_iff {N : List Str} {e : DictEntry} (hk : ∃ s ∈ N, ∃ t, e.key = .str s t) (x : Str) : e.key.isStr x = decide (keyS e.key = x) := by
  obtain ⟨s, _, t, e1⟩ := hk
  rw [e1]
  by_cases q : s = x
  · simp [Value.isStr, keyS, q]
  · simp [Value.isStr, keyS, q]
theorem attrs_put {N : List Str} {x : Str} {hs : Int} {v : Value} {t : Tok} (hx : x ∈ N) : ∀ {es : List DictEntry} {am : Str → Option Value}, (∀ x, (es.find? (·.key.isStr x)).map (·.val) = am x) → (∀ e ∈ es, ∃ s ∈ N, ∃ t, e.key = .str s t) → (es.map fun e => keyS e.key).Nodup →
    (∀ y, ((putL x hs (.str x t) v es).find? (·.key.isStr y)).map (·.val) = upd am x v y) ∧ (∀ e ∈ putL x hs (.str x t) v es, ∃ s ∈ N, ∃ t, e.key = .str s t) ∧ ((putL x hs (.str x t) v es).map fun e => keyS e.key).Nodup ∧ (∀ y, y ∈ (putL x hs (.str x t) v es).map (fun e => keyS e.key) ↔ y = x ∨ y ∈ es.map fun e => keyS e.key)
  | [], am, hf, _, _ => by
    refine ⟨fun y => ?_, fun e he => ?_, ?_, ?_⟩
    · have := hf y
      by_cases e : y = x
      · subst e; simp [putL, Value.isStr, upd]
      · have n : (x == y) = false := by simpa using fun q => e q.symm
        simp only [List.find?_nil, Option.map_none] at this
        simp [putL, Value.isStr, upd, e, n, ← this]
    · simp only [putL, List.mem_singleton] at he; subst he; exact ⟨x, hx, t, rfl⟩
    · simp [putL]
    · intro y; simp [putL, keyS]
  | en :: r, am, hf, hk, hn => by
    have hke := hk en (.head _)
    unfold putL
    cases q : en.key.isStr x with
    | true =>
      have hxe : keyS en.key = x := by have := isStr_iff hke x; rw [q] at this; exact of_decide_eq_true this.symm
      simp only [if_true]
      refine ⟨fun y => ?_, fun e he => ?_, hn, ?_⟩
      · by_cases e : y = x
        · subst e; simp [q, upd]
        · have n : en.key.isStr y = false := by rw [isStr_iff hke, hxe]; exact decide_eq_false fun z => e z.symm
          have := hf y
          rw [List.find?_cons, n] at this
          simp only [List.find?_cons, n, upd, if_neg e]
          exact this
      · rcases List.mem_cons.mp he with he | he
        · subst he; exact hke
        · exact hk e (.tail _ he)
      · intro y; simp [hxe]
    | false =>
      have hxe : keyS en.key ≠ x := by have := isStr_iff hke x; rw [q] at this; exact of_decide_eq_false this.symm
      simp only [Bool.false_eq_true, if_false]
      rw [List.map_cons, List.nodup_cons] at hn
      obtain ⟨i1, i2, i3, i4⟩ := attrs_put hx (es := r) (am := fun y => (r.find? (·.key.isStr y)).map (·.val)) (hs := hs) (v := v) (t := t) (fun _ => rfl) (fun e he => hk e (.tail _ he)) hn.2
      refine ⟨fun y => ?_, fun e he => ?_, ?_, ?_⟩
      · have := hf y
        rw [List.find?_cons] at this ⊢
        cases n : en.key.isStr y with
        | true =>
          rw [n] at this
          have e : y ≠ x := fun z => by subst z; rw [q] at n; cases n
          simp only [upd, if_neg e]
          exact this
        | false =>
          rw [n] at this
          have j := i1 y
          simp only [upd] at j ⊢
          rw [this] at j
          exact j
      · rcases List.mem_cons.mp he with he | he
        · subst he; exact hke
        · exact i2 e he
      · rw [List.map_cons, List.nodup_cons]
        refine ⟨fun z => ?_, i3⟩
        rcases (i4 _).mp z with z | z
        · exact hxe z
        · exact hn.1 z
      · intro y
        rw [List.map_cons, List.map_cons, List.mem_cons, List.mem_cons, i4]
        constructor
        · rintro (z | z | z)
          · exact .inr (.inl z)
          · exact .inl z
          · exact .inr (.inr z)
        · rintro (z | z | z)
          · exact .inr (.inl z)
          · exact .inl z
          · exact .inr (.inr z)
end
end Mine

end
section
open PySem PySem.W PyProof.Rows PySem.Calls
set_option Elab.async false
set_option linter.unusedVariables false
set_option maxRecDepth 100000
namespace Mine
section
variable {prog : Program} {w : World} {A : Around} {h h' h₀ : Heap} {env : Env} {D : List Addr} {L : Addr} {m m' : Str → Option Value} {l : List (Addr × Obj)} {K : Frag} {C x dx : Addr} {od : Obj} {am : Str → Option Value} {N : List Str}

structure Plain (K : Frag) (C : Addr) : Prop where
  ga : findIn K (.ref C) "__getattribute__" = some (some (.builtin "object.__getattribute__"))
  gt : findIn K (.ref C) "__getattr__" = some none
  sa : findIn K (.ref C) "__setattr__" = some (some (.builtin "object.__setattr__"))
  over : plainOver K C = true
  hd : hasDictIn K C = true

structure Inst (h : Heap) (x C dx : Addr) (od : Obj) : Prop where
  ob : h.get? x = some (instObj C dx)
  dict : h.get? dx = some od
theorem Inst.at (I : Inst h x C dx od) : InstAt h x (instObj C dx) C (some od) := ⟨I.ob, rfl, rfl, I.dict⟩

theorem T.getAttr {name : Str} {v : Value} {e : Bool} {Q : Value → Heap → Prop} (P : Plain K C) (X : K.In h) (I : Inst h x C dx od) (ia : IsAttrs N od am) (hv : am name = some v) (hc : findIn K (.ref C) name = some none) (hh : handedIn v = true)
    (q : Q v h) : T prog w A (getAttr (.ref x) name e) h Q := fun s es => by
  subst es
  obtain ⟨es, n, rfl, hf, hk, hnd⟩ := ia
  have hg := getL_of hk hf
  exact get_value X I.at P.ga (findObj_own P.hd hc rfl (by rw [lookIn_dict, hg, hv])) hh ⟨_, _, rfl, q⟩
theorem T.getMeth {name : Str} {f : Addr} {pl : Sem Bool} {Q : Value × List Value → Heap → Prop} (P : Plain K C) (X : K.In h) (I : Inst h x C dx od) (ia : IsAttrs N od am) (hv : am name = none) (hf : findIn K (.ref C) name = some (some (.ref f))) (ht : typeIn K (.ref f) = some (.type "function"))
    (q : Q (.ref f, [.ref x]) h) : T prog w A (getMethod (.ref x) name pl) h Q := fun s es => by
  subst es
  obtain ⟨es, n, rfl, hff, hk, hnd⟩ := ia
  have hg := getL_of hk hff
  refine method_fn X I.at P.ga P.gt hf ht ?_ ⟨_, s.toks, rfl, q⟩
  show (lookIn name (dictOf es n)).map _ = _
  rw [lookIn_dict, hg, hv]; rfl
theorem T.setAttr {name : Str} {v : Value} {Q : Unit → Heap → Prop} (P : Plain K C) (X : K.In h) (H : S h₀ D L m l h) (i : Nat) (hi : l[i]? = some (dx, od)) (ho : h.get? x = some (instObj C dx)) (ia : IsAttrs N od am) (hc : takerIn K C name = some none) 
    (q : ∀ h' od', S h₀ D L m (l.set i (dx, od')) h' → h'.get? x = some (instObj C dx) → IsAttrs N od' (upd am name v) → (∀ b o, b ≠ L → b ≠ dx → h.get? b = some o → h'.get? b = some o) → Q () h') (hN : name ∈ N) (hz : N.length ≤ 1000) : T prog w A (setAttr (.ref x) name v) h Q := fun s es => by
  subst es
  obtain ⟨es, n, rfl, hf, hk, hnd⟩ := ia
  have hg := getL_of hk hf
  have hdx : s.heap.get? dx = some (dictOf es n) := H.get (List.mem_of_getElem? hi)
  have hdL : dx ≠ L := fun q => H.offL (q ▸ List.mem_map.mpr ⟨_, List.mem_of_getElem? hi, rfl⟩)
  have hxL : x ≠ L := fun q => by
    obtain ⟨oL, es', ep, hL, hd, _⟩ := H.ns
    rw [← q, ho] at hL
    cases hL
    cases hd
  have hxd : x ≠ dx := fun q => by
    rw [q, hdx] at ho
    cases ho
  obtain ⟨pre, post, e, n1, n2⟩ := all_split hdx hdL
  have I : InstAt s.heap x (instObj C dx) C (some (dictOf es n)) := ⟨ho, rfl, rfl, hdx⟩
  refine set_plain X I P.sa (osa_dict (s := { s with toks := s.toks + 1 }) (pre := pre) (post := post) (es := putL name (PyData.keyHash w.params name) (.str name (s.toks + 1)) v es) (n := putN name es n) (frAll H.ns) (e ▸ newsAll) X I rfl P.over hc P.hd ?_ n1 n2 (putName_dict ..) rfl ?_ fun h' F' N' => ?_)
  · rw [lookIn_dict, hg]; rfl
  · obtain ⟨_, i2, i3, _⟩ := attrs_put (hs := PyData.keyHash w.params name) (v := v) (t := s.toks + 1) hN hf hk hnd
    exact Nat.le_trans (attrs_len i2 i3) hz
  · obtain ⟨s1, s2⟩ := sub_of_split e N'
    obtain ⟨i1, i2, i3, _⟩ := attrs_put (hs := PyData.keyHash w.params name) (v := v) (t := s.toks + 1) hN hf hk hnd
    exact ⟨h', _, rfl, q h' _ (H.frameUpd i hi s1 s2 F'.ns) (s1 _ _ (by simp [hxL, hxd]) ho) ⟨_, _, rfl, i1, i2, i3⟩ fun b o nL nd eb => s1 b o (by simp [nL, nd]) eb⟩

theorem TC.make {rest : List Value} {fI : Addr} {Q : Value → Heap → Prop} (X : K.In h) (hm : makesIn K C = true) (hi : findIn K (.ref C) "__init__" = some (some (.ref fI))) (hf : typeIn K (.ref fI) = some (.type "function")) (hn : h.Ns L m)
    (q : ∀ x dx h', Sub [L] h h' → h'.Ns L m → h'.get? x = some (instObj C dx) → h'.get? dx = some (dictOf [] 0) → h.get? x = none → h.get? dx = none →
      TC prog w (A.under (.builtin "type.__call__" ⟨.ref C :: rest, []⟩)) (.call (.ref fI) ⟨.ref x :: rest, []⟩) h' fun v h'' => v = .none ∧ Q (.ref x) h'') : TC prog w A (.call (.ref C) ⟨rest, []⟩) h Q := fun s es => by
  subst es
  refine make_K (frAll hn) newsAll X hm hi hf fun x dx h' F' N' lt1 lt2 => ?_
  have hdx : s.heap.get? dx = none := by
    cases e : s.heap.get? dx with
    | none => rfl
    | some o =>
      by_cases hL : dx = L
      · have := (N' (dx, _) (.tail _ (.head _))).2.1
        exact absurd hL this
      · exact absurd (lt1 (dx, o) (mem_allBut.mpr ⟨hL, e⟩)) (Nat.lt_irrefl _)
  have hx : s.heap.get? x = none := by
    cases e : s.heap.get? x with
    | none => rfl
    | some o =>
      by_cases hL : x = L
      · exact absurd hL (N' (x, _) (.head _)).2.1
      · have := lt1 (x, o) (mem_allBut.mpr ⟨hL, e⟩)
        exact absurd this (Nat.lt_asymm lt2)
  refine codeAny_mono (q x dx h' (sub_of_news (extra := [_, _]) N') F'.ns (N' _ (.head _)).1 (N' _ (.tail _ (.head _))).1 hx hdx _ rfl) ?_
  rintro r s' ⟨v, h'', tk, rfl, rfl, e, z⟩
  exact ⟨e, _, _, _, rfl, rfl, z⟩
end
end Mine

end
section
open PySem PySem.W PyProof.Rows PySem.Calls
set_option Elab.async false
set_option linter.unusedVariables false
set_option maxRecDepth 100000
namespace Mine
section
variable {prog : Program} {w : World} {A : Around} {h h' h₀ : Heap} {env : Env} {D : List Addr} {L : Addr} {m m' : Str → Option Value} {l : List (Addr × Obj)}

noncomputable def IsLst (o : Obj) (vs : List Value) : Prop := ∃ n, o = { cls := .type "list", data := .seq vs.toArray n }
noncomputable def IsTupO (o : Obj) (vs : List Value) : Prop := ∃ n, o = { cls := .type "tuple", data := .seq vs.toArray n }
noncomputable abbrev IsDic (prog : Program) (w : World) (o : Obj) (kvs : List (Int × Value)) : Prop := o.IsDictOf (intKind prog w) kvs

theorem t_Dict0 {pos : Pos} {Q : Value → Heap → Prop} (q : ∀ a h' o, Sub [] h h' → h.get? a = none → h'.get? a = some o → IsDic prog w o [] → Q (.ref a) h') : T prog w A (eval (.Dict [] [] pos) env) h Q := fun s es => by
  subst es
  refine wpAny_Dict_empty ⟨_, s.toks, rfl, q _ _ _ (Sub.push _ _) (get_size_none _) (get_push_self _ _) ?_⟩
  exact ⟨#[], 0, ⟨rfl, rfl, rfl⟩, rfl, fun _ he => by simp at he, .nil, .nil⟩
theorem t_List {elts : List PySem.Expr} {pos : Pos} {Q : Value → Heap → Prop} (x : TArgs prog w A env elts h fun vs h₁ => vs.length ≤ sizeLine ∧ ∀ a h' o, Sub [] h₁ h' → h₁.get? a = none → h'.get? a = some o → IsLst o vs → Q (.ref a) h') (hs : noStars elts = true) :
    T prog w A (eval (.List elts pos) env) h Q := fun s es => List_ (wpAny_mono (TArgs.wp (noStars_of hs) x s es) (by
      rintro vs s₁ ⟨h₁, t₁, rfl, hsz, q⟩
      exact wpAny_newObj_type (dict := none) ⟨_, _, rfl, q _ _ _ (Sub.push _ _) (get_size_none _) (get_push_self _ _) ⟨0, rfl⟩⟩ (by show vs.toArray.size ≤ sizeLine; simpa using hsz)) fun _ _ z => z)
theorem t_Tuple {elts : List PySem.Expr} {k : Nat} {pos : Pos} {Q : Value → Heap → Prop} (x : TArgs prog w A env elts h fun vs h₁ => vs.length ≤ sizeLine ∧ ∀ a h' o, Sub [] h₁ h' → h₁.get? a = none → h'.get? a = some o → IsTupO o vs → Q (.ref a) h') (hs : noStars elts = true) :
    T prog w A (eval (.Tuple elts k pos) env) h Q := fun s es => Tuple_ (wpAny_mono (TArgs.wp (noStars_of hs) x s es) (by
      rintro vs s₁ ⟨h₁, t₁, rfl, hsz, q⟩
      exact wpAny_newObj_type (dict := none) ⟨_, _, rfl, q _ _ _ (Sub.push _ _) (get_size_none _) (get_push_self _ _) ⟨0, rfl⟩⟩ (by show vs.toArray.size ≤ sizeLine; simpa using hsz)) fun _ _ z => z)

theorem dicOf {d : Addr} {o : Obj} {kvs : List (Int × Value)} (ho : h.get? d = some o) (hd : IsDic prog w o kvs) : h.DictOf (intKind prog w) d kvs := Heap.dictOf_iff.mpr ⟨o, ho, hd⟩
theorem t_dict_get {d : Addr} {o : Obj} {kvs : List (Int × Value)} {k : Int} {t : Tok} {dflt : Value} {Q : Value → Heap → Prop} (ho : h.get? d = some o) (hd : IsDic prog w o kvs) (lo : (d == sysModules) = false) (q : Q ((valueAt kvs k).getD dflt) h) :
    T prog w A (PySem.call (.builtin "dict.get") [.ref d, .int k t, dflt]) h Q := fun s es => by
  subst es
  have hD := dicOf (prog := prog) (w := w) ho hd
  exact call_meetsIn PySem.F.slot_dict_get hD.typeIs PySem.F.entry_dict_get (PySem.F.args_dict_get_3 _ _ _) (meets_dict_get_default (intKind prog w) d (intKind_is prog w k t) lo dflt) ⟨_, hD.mapOf, ⟨_, _, rfl, q⟩⟩
theorem t_dict_set {d : Addr} {o : Obj} {kvs : List (Int × Value)} {k : Int} {t : Tok} {v : Value} {Q : Unit → Heap → Prop} (ho : h.get? d = some o) (hd : IsDic prog w o kvs) (hsz : kvs.length ≤ sizeLine)
    (q : ∀ h' o', Sub [d] h h' → h'.get? d = some o' → IsDic prog w o' (stored kvs k v) → Q () h') : T prog w A (setItem (.ref d) (.int k t) v) h Q := fun s es => by
  subst es
  refine wpAny_setItem_pairs (hsz := hsz) (intKind_is prog w k t) (dicOf ho hd) fun h' hm hs => ?_
  obtain ⟨o', ho', hd'⟩ := Heap.dictOf_iff.mp hm
  exact ⟨h', _, rfl, q h' o' (Sub.same hs) ho' hd'⟩
theorem wp_setdefault {s : Shared} {E : Value → Shared → Prop} {d : Addr} {kvs : List (Int × Value)} {k : Int} {t : Tok} {dflt : Value} {Q : Value → Shared → Prop} (hm : s.heap.DictOf (intKind prog w) d kvs)
    (hthere : ∀ v, valueAt kvs k = some v → Q v { s with toks := s.toks + 1 })
    (hnew : valueAt kvs k = none → ∀ h', h'.DictOf (intKind prog w) d (kvs ++ [(k, dflt)]) → Heap.SameBut d s.heap h' → Q dflt { s with heap := h', toks := s.toks + 1 })
    (hsz : kvs.length ≤ sizeLine) : wpAny (model prog w) A (dictSetDefault d (.int k t) dflt) Q E s := by
  have hkey := intKind_is prog w k t
  obtain ⟨o, es, ep, ho, hc, hd, hk, hp, hn⟩ := hm
  have hes : es.size ≤ sizeLine := by
    have e1 := hp.length
    have e2 : es.toList.length = es.size := by simp
    (first | lia | omega)
  unfold dictSetDefault
  try with_reducible refine wpAny_holding ?_
  refine wpAny_bind ((intKind prog w).pyHash hkey ?_)
  refine wpAny_bind (wpAny_dictFind_of (s := { s with toks := s.toks + 1 }) hkey ho hd hk ?_)
  have hidx : (es.findIdx? fun e => (intKind prog w).is k e.key) = kvs.findIdx? fun kv => decide (kv.1 = k) := by
    rw [← hp.findIdx k]; obtain ⟨l⟩ := es; simp
  have hfind := hp.find k
  cases hi : es.findIdx? fun e => (intKind prog w).is k e.key with
  | some i =>
    refine wpAny_bind (wpAny_dictEntries (s := { s with toks := s.toks + 1 }) ho hd ?_)
    obtain ⟨hlt, hp1, hp2⟩ := Array.findIdx?_eq_some_iff_getElem.mp hi
    rw [Array.getElem?_eq_getElem hlt]
    refine wpAny_bind (wpAny_rule (wpAny_pure (hthere _ ?_)))
    rw [← hfind]
    have : es.toList.find? (fun e => (intKind prog w).is k e.key) = some es[i] := by
      rw [List.find?_eq_some_iff_getElem]
      exact ⟨hp1, i, by simpa using hlt, by simp, fun j hj => by
        have := hp2 j hj
        simpa using this⟩
    rw [this]; rfl
  | none =>
    have hnot : k ∉ kvs.map (·.1) := not_mem_of_findIdx_none (hidx ▸ hi)
    have hnone : valueAt kvs k = none := by
      unfold valueAt
      rw [List.find?_eq_none.mpr fun kv hkv he => hnot (List.mem_map.mpr ⟨kv, hkv, of_decide_eq_true he⟩)]; rfl
    refine wpAny_bind (wpAny_rule (wpAny_bind (wpAny_updateDictKeys (hz := hes) (s := { s with toks := s.toks + 1 }) ho hd (wpAny_pure (hnew hnone _ ⟨_, _, ep + 1, Heap.get?_update_self _ ho (Obj.isFreed_of_dict (Obj.data_mapDictKeys hd _)),
      hc.mapDictKeys _, Obj.data_mapDictKeys hd _, hk.push hkey _, ?_, ?_⟩ (Heap.SameBut.update ..))))))
    · have := hp.append hkey ((intKind prog w).hash k) dflt
      obtain ⟨l⟩ := es
      simpa using this
    · rw [List.map_append, List.nodup_append]
      refine ⟨hn, by simp, ?_⟩
      intro a ha b hb
      simp only [List.map_cons, List.map_nil, List.mem_singleton] at hb
      subst hb
      exact fun e => hnot (e ▸ ha)
theorem t_setdefault {d : Addr} {o : Obj} {kvs : List (Int × Value)} {k : Int} {t : Tok} {dflt : Value} {Q : Value → Heap → Prop} (ho : h.get? d = some o) (hd : IsDic prog w o kvs) (lo : (d == sysModules) = false) (hsz : kvs.length ≤ sizeLine)
    (q1 : ∀ v, valueAt kvs k = some v → Q v h) (q2 : valueAt kvs k = none → ∀ h' o', Sub [d] h h' → h'.get? d = some o' → IsDic prog w o' (kvs ++ [(k, dflt)]) → Q dflt h') :
    T prog w A (PySem.call (.builtin "dict.setdefault") [.ref d, .int k t, dflt]) h Q := fun s es => by
  subst es
  have hD := dicOf (prog := prog) (w := w) ho hd
  refine wpAny_call_entry PySem.F.slot_dict_setdefault hD.typeIs PySem.F.entry_dict_setdefault ?_ (PySem.F.args_dict_setdefault_3 _ _ _)
  unfold Builtin.«dict.setdefault»
  refine wpAny_bind ?_
  unfold Builtin.Dict.keyAndDefault
  refine wpAny_bind (wpAny_notOrdered_dict hD.typeIs ?_)
  show wpAny _ _ (Pure.pure (d, (Value.int k t), some dflt)) _ _ s
  refine wpAny_pure ?_
  show wpAny _ _ (if (d == sysModules) = true then _ else (dictSetDefault d (.int k t) dflt >>= _)) _ _ s
  rw [if_neg (by rw [lo]; exact Bool.false_ne_true)]
  refine wpAny_bind (wp_setdefault (hsz := hsz) hD (fun v hv => wpAny_pure ⟨v, rfl, _, _, rfl, q1 v hv⟩) fun hn h' hm hs => wpAny_pure ⟨dflt, rfl, ?_⟩)
  obtain ⟨o', ho', hd'⟩ := Heap.dictOf_iff.mp hm
  exact ⟨_, _, rfl, q2 hn h' o' (Sub.same hs) ho' hd'⟩

theorem IsLst.isList {a : Addr} {o : Obj} {vs : List Value} (ho : h.get? a = some o) (x : IsLst o vs) : h.IsList a vs.toArray := let ⟨n, e⟩ := x; ⟨o, ho, by rw [e], n, by rw [e]⟩
theorem t_append {a : Addr} {o : Obj} {vs : List Value} {v : Value} {Q : Value → Heap → Prop} (ho : h.get? a = some o) (hl : IsLst o vs) (hsz : vs.length ≤ sizeLine)
    (q : ∀ h' o', Sub [a] h h' → h'.get? a = some o' → IsLst o' (vs ++ [v]) → Q .none h') : T prog w A (PySem.call (.builtin "list.append") [.ref a, v]) h Q := fun s es => by
  subst es
  obtain ⟨n, rfl⟩ := hl
  refine wpAny_list_append_plain (items := vs.toArray) ⟨n, ho⟩ (fun h' hp hs => ?_) (by simpa using hsz)
  obtain ⟨n', ho'⟩ := hp
  exact ⟨h', s.toks, rfl, q h' _ (Sub.same hs) ho' ⟨n', by simp⟩⟩
end
end Mine

end
section
open PySem PySem.W PyProof.Rows PySem.Calls
set_option Elab.async false
set_option linter.unusedVariables false
set_option maxRecDepth 100000
namespace Mine
section
variable {prog : Program} {w : World} {A : Around} {h h' h₀ : Heap} {env : Env} {D : List Addr} {L : Addr} {m m' : Str → Option Value} {l l' : List (Addr × Obj)}

theorem S.perm (H : S h₀ D L m l h) (p : l.Perm l') : S h₀ D L m l' h where
  base := H.base
  ns := H.ns
  led := fun q hq => H.led q (p.mem_iff.mpr hq)
  own := fun q hq => H.own q (p.mem_iff.mpr hq)
  nodup := (p.map _).nodup_iff.mp H.nodup
  offL := fun q => H.offL ((p.map _).mem_iff.mpr q)
  newL := H.newL
  dl := fun d hd => (p.map _).mem_iff.mp (H.dl d hd)
theorem S.addEnd {a : Addr} {o : Obj} (H : S h₀ D L m l h) (x : Sub [] h h') (hn : h.get? a = none) (ho : h'.get? a = some o) : S h₀ D L m (l ++ [(a, o)]) h' := (H.add x hn ho).perm (List.perm_append_singleton _ _).symm
theorem S.updEnd {a : Addr} {o o' : Obj} (H : S h₀ D L m (l ++ [(a, o)]) h) (x : Sub [a] h h') (ho : h'.get? a = some o') : S h₀ D L m (l ++ [(a, o')]) h' := by
  have := H.upd (o := o) l.length (by first | walk_at "mem" | simp) x ho
  simpa using this
theorem S.dropEnd {l₂ : List (Addr × Obj)} (H : S h₀ D L m (l ++ l₂) h) (hd : ∀ d ∈ D, d ∈ l.map (·.1)) : S h₀ D L m l h := H.drop (List.sublist_append_left _ _) hd
theorem S.getEnd {a : Addr} {o : Obj} (H : S h₀ D L m (l ++ [(a, o)]) h) : h.get? a = some o := H.get (by first | walk_at "mem" | simp)
theorem S.offEnd {a : Addr} {o : Obj} (H : S h₀ D L m (l ++ [(a, o)]) h) : ∀ p ∈ l, p.1 ≠ a := fun p hp q => by
  have := H.nodup
  rw [List.map_append, List.nodup_append] at this
  exact this.2.2 p.1 (List.mem_map_of_mem hp) a (by first | walk_at "mem" | simp) q

theorem t_assignName {x : Str} {px : Pos} {v : Value} {Q : Unit → Heap → Prop} (e : EnvOk env) (H : S h₀ D env.locals m l h) (q : ∀ h', S h₀ D env.locals (upd m x v) l h' → Q () h') (hl : env.kindOf x = some .local) : T prog w A (assign (.Name x px) env v) h Q :=
  fun s es => wpAny_assign_Name (T.storeName e H q hl s es)
noncomputable def updAll (m : Str → Option Value) : List Str → List Value → Str → Option Value
  | x :: xs, v :: vs => updAll (upd m x v) xs vs
  | _, _ => m
theorem t_assignNames {px : Pos} (e : EnvOk env) : ∀ {xs : List (Str × Pos)} {vs : List Value} {h : Heap} {m : Str → Option Value} {Q : Unit → Heap → Prop}, S h₀ D env.locals m l h → xs.length = vs.length → (∀ x ∈ xs, env.kindOf x.1 = some .local) →
    (∀ h', S h₀ D env.locals (updAll m (xs.map (·.1)) vs) l h' → Q () h') → T prog w A (assignInOrder ((assignEach (xs.map fun x => PySem.Expr.Name x.1 x.2) env).map (·.2)) vs) h Q
  | [], [], h, m, Q, H, _, _, q => T.pure (q h H)
  | x :: xs, v :: vs, h, m, Q, H, hn, hk, q => by
    refine T.eq (t' := (do PySem.holding vs (assign (.Name x.1 x.2) env v); assignInOrder ((assignEach (xs.map fun x => PySem.Expr.Name x.1 x.2) env).map (·.2)) vs)) rfl ?_
    exact T.bind (T.holding (t_assignName e H (fun h' H' => t_assignNames (px := px) e H' (by simpa using hn) (fun x hx => hk x (.tail _ hx)) q) (hk x (.head _))))
  | [], _ :: _, _, _, _, _, hn, _, _ => by simp at hn
  | _ :: _, [], _, _, _, _, hn, _, _ => by simp at hn
theorem S.track {a : Addr} {o : Obj} (H : S h₀ D L m l h) (ho : h.get? a = some o) (hn : h₀.get? a = none) (hL : a ≠ L) (hl : a ∉ l.map (·.1)) : S h₀ D L m (l ++ [(a, o)]) h :=
  S.perm (l := (a, o) :: l) { base := H.base, ns := H.ns, led := fun p hp => by
                                rcases List.mem_cons.mp hp with rfl | hp
                                · exact ho
                                · exact H.led p hp
                              own := fun p hp => by
                                rcases List.mem_cons.mp hp with rfl | hp
                                · exact .inr hn
                                · exact H.own p hp
                              nodup := by rw [List.map_cons, List.nodup_cons]; exact ⟨hl, H.nodup⟩
                              offL := by rw [List.map_cons, List.mem_cons]; exact fun q => q.elim (fun q => hL q.symm) H.offL
                              newL := H.newL, dl := fun d hd => List.mem_cons_of_mem _ (H.dl d hd) } (List.perm_append_singleton _ _).symm
theorem S.fresh {a : Addr} (H : S h₀ D L m l h) (hn : h.get? a = none) : h₀.get? a = none ∧ a ≠ L ∧ a ∉ l.map (·.1) := by
  have hl : a ∉ l.map (·.1) := fun q => by
    obtain ⟨p, hp, e⟩ := List.mem_map.mp q
    have := H.led p hp
    rw [e, hn] at this; cases this
  refine ⟨?_, fun q => ?_, hl⟩
  · cases e : h₀.get? a with
    | none => rfl
    | some o =>
      have := H.base a o (fun q => hl (H.dl a q)) e
      rw [hn] at this; cases this
  · obtain ⟨oL, _, _, e, _⟩ := H.ns
    rw [← q, hn] at e; cases e
theorem S.keepBut {X : List Addr} (H : S h₀ D L m l h) (x : Sub X h h') (hX : ∀ b ∈ X, b ∉ D ∧ h₀.get? b = none ∧ b ≠ L ∧ b ∉ l.map (·.1)) : S h₀ D L m l h' where
  base := fun b ob n eb => x b ob (fun q => by rw [(hX b q).2.1] at eb; cases eb) (H.base b ob n eb)
  ns := by
    obtain ⟨oL, a1, a2, a3, a4⟩ := H.ns
    exact ⟨oL, a1, a2, x _ _ (fun q => (hX L q).2.2.1 rfl) a3, a4⟩
  led := fun p hp => x _ _ (fun q => (hX p.1 q).2.2.2 (List.mem_map_of_mem hp)) (H.led p hp)
  own := H.own
  nodup := H.nodup
  offL := H.offL
  newL := H.newL
  dl := H.dl
theorem S.ownEnd {E : List (Addr × Obj)} (H : S h₀ D L m (l ++ E) h) (hd : ∀ d ∈ D, d ∈ l.map (·.1)) : ∀ b ∈ E.map (·.1), b ∉ D ∧ h₀.get? b = none ∧ b ≠ L ∧ b ∉ l.map (·.1) := fun b hb => by
  have nd := H.nodup
  rw [List.map_append, List.nodup_append] at nd
  have nl : b ∉ l.map (·.1) := fun q => nd.2.2 b q b hb rfl
  have nD : b ∉ D := fun q => nl (hd b q)
  obtain ⟨p, hp, rfl⟩ := List.mem_map.mp hb
  refine ⟨nD, (H.own p (List.mem_append_right _ hp)).resolve_left nD, fun q => H.offL ?_, nl⟩
  rw [List.map_append]
  exact List.mem_append_right _ (q ▸ hb)
inductive LstI (h₀ : Heap) (D : List Addr) (L I ax : Addr) (vs : List Value) (Inv : Nat → (Str → Option Value) → List (Addr × Obj) → Prop) (k : Nat) (h : Heap) : Prop
  | mk (i : Nat) (m₁ : Str → Option Value) (l₁ : List (Addr × Obj)) (o : Obj) (x1 : k + i = vs.length) (x2 : Inv i m₁ l₁) (x3 : S h₀ D L m₁ (l₁ ++ [(I, o)]) h) (x4 : h.IsListIter I ax i)
inductive EnmI (h₀ : Heap) (D : List Addr) (L I ax : Addr) (vs : List Value) (Inv : Nat → (Str → Option Value) → List (Addr × Obj) → Prop) (k : Nat) (h : Heap) : Prop
  | mk (i : Nat) (m₁ : Str → Option Value) (l₁ : List (Addr × Obj)) (oi oe : Obj) (old : Value) (x1 : k + i = vs.length) (x2 : Inv i m₁ l₁) (x3 : S h₀ D L m₁ (l₁ ++ [(I, oi), (I + 1, oe)]) h) (x4 : h.IsListIter I ax i) (x5 : IsEnum h (I + 1) I i old)
theorem tf_list {x : Str} {px : Pos} {ax : Addr} {vs : List Value} {body : List Stmt} {Q : Flow → Heap → Prop} (e : EnvOk env) (hh : A.handled = none) (hx : env.kindOf x = some .local) (H : S h₀ D env.locals m l h)
    (Inv : Nat → (Str → Option Value) → List (Addr × Obj) → Prop) (hD : ∀ i m l, Inv i m l → ∀ d ∈ D, d ∈ l.map (·.1))
    (hl : ∀ i m l h, Inv i m l → S h₀ D env.locals m l h → h.IsList ax vs.toArray) (h0 : Inv 0 m l)
    (turn : ∀ i v m₁ l₁ I o h, vs[i]? = some v → Inv i m₁ l₁ → S h₀ D env.locals (upd m₁ x v) (l₁ ++ [(I, o)]) h → T prog w A (execs body env) h fun f h₃ => match f with
      | .next | .cont => ∃ m₂ l₂, Inv (i + 1) m₂ l₂ ∧ S h₀ D env.locals m₂ (l₂ ++ [(I, o)]) h₃
      | .brk => Q .next h₃
      | .ret v => Q (.ret v) h₃)
    (done : ∀ m₁ l₁ h, Inv vs.length m₁ l₁ → S h₀ D env.locals m₁ l₁ h → Q .next h) :
    T prog w A (pyIter (.ref ax)) h fun it h₂ => TF prog w A (.forLoop (.Name x px) it body [] env) h₂ Q := fun s es => by
  subst es
  refine wpAny_pyIter_list (hl 0 m l _ h0 H) ⟨_, s.toks, rfl, ?_⟩
  have HI := H.addEnd (Sub.push _ { cls := .type "list_iterator", data := .fields #[.ref ax, rawInt 0] }) (get_size_none _) (get_push_self _ _)
  refine TF.forLoop (LstI h₀ D env.locals s.heap.objs.size ax vs Inv) ?_ vs.length ⟨0, m, l, _, rfl, h0, HI, ⟨_, HI.getEnd, rfl, rfl⟩⟩
  rintro k h ⟨i, m₁, l₁, o, hk, hi, HS, hit⟩
  intro s' es'
  subst es'
  have hL := hl i m₁ l₁ _ hi (HS.dropEnd (hD _ _ _ hi))
  cases hv : vs[i]? with
  | none =>
    have hlen : vs.length ≤ i := by simpa using hv
    obtain rfl : i = vs.length := by (first | lia | omega)
    refine wpAny_pyNext_list_end hh hit hL (by simpa using hv) fun h' he => ⟨h', s'.toks, rfl, ?_⟩
    refine done m₁ l₁ h' hi ?_
    have HS' := HS.dropEnd (hD _ _ _ hi)
    obtain ⟨oi, hoi, _⟩ := id hit
    refine { base := fun b ob n eb => ?_, ns := ?_, led := fun p hp => ?_, own := HS'.own, nodup := HS'.nodup, offL := HS'.offL, newL := HS'.newL, dl := HS'.dl }
    · refine he b ob (fun q => ?_) (HS'.base b ob n eb)
      rcases HS.own (s.heap.objs.size, o) (by first | walk_at "mem" | simp) with y | y
      · exact n (q ▸ y)
      · rw [q, y] at eb; cases eb
    · obtain ⟨oL, a1, a2, a3, a4⟩ := HS'.ns
      exact ⟨oL, a1, a2, he _ _ (fun q => HS.offL (by simp [q])) a3, a4⟩
    · exact he _ _ (HS.offEnd p hp) (HS'.led p hp)
  | some v =>
    refine wpAny_pyNext_list_item hit hL (x := v) (by simpa using hv) fun h₁ hit₁ hs₁ => ⟨h₁, s'.toks, rfl, ?_⟩
    obtain ⟨o₁, ho₁, hc₁⟩ := id hit₁
    have H₁ := HS.updEnd (Sub.same hs₁) ho₁
    refine T.eq rfl (T.pure ?_)
    refine t_assignName e H₁ (fun h₂ H₂ => ?_) hx
    refine (turn i v m₁ l₁ _ _ h₂ hv hi H₂).mono fun f h₃ z => ?_
    have fin : (∃ m₂ l₂, Inv (i + 1) m₂ l₂ ∧ S h₀ D env.locals m₂ (l₂ ++ [(s.heap.objs.size, o₁)]) h₃) → ∃ k', k' < k ∧ LstI h₀ D env.locals s.heap.objs.size ax vs Inv k' h₃ := by
      rintro ⟨m₂, l₂, i₂, H₃⟩
      have hlt : i < vs.length := by
        rcases Nat.lt_or_ge i vs.length with y | y
        · exact y
        · rw [List.getElem?_eq_none y] at hv; cases hv
      exact ⟨k - 1, by (first | lia | omega), i + 1, m₂, l₂, o₁, by (first | lia | omega), i₂, H₃, o₁, H₃.getEnd, hc₁⟩
    cases f with
    | next => exact fin z
    | cont => exact fin z
    | brk => exact z
    | ret v => exact z

theorem tf_enum {xi xv : Str} {pi pv pt : Pos} {k1 : Nat} {ax : Addr} {vs : List Value} {body : List Stmt} {Q : Flow → Heap → Prop} (e : EnvOk env) (hh : A.handled = none) (hxi : env.kindOf xi = some .local) (hxv : env.kindOf xv = some .local) (H : S h₀ D env.locals m l h)
    (Inv : Nat → (Str → Option Value) → List (Addr × Obj) → Prop) (hD : ∀ i m l, Inv i m l → ∀ d ∈ D, d ∈ l.map (·.1))
    (hl : ∀ i m l h, Inv i m l → S h₀ D env.locals m l h → h.IsList ax vs.toArray) (h0 : Inv 0 m l)
    (turn : ∀ i v t m₁ l₁ E h, vs[i]? = some v → Inv i m₁ l₁ → S h₀ D env.locals (upd (upd m₁ xi (.int i t)) xv v) (l₁ ++ E) h → T prog w A (execs body env) h fun f h₃ => match f with
      | .next | .cont => ∃ m₂ l₂, Inv (i + 1) m₂ l₂ ∧ S h₀ D env.locals m₂ (l₂ ++ E) h₃
      | .brk => Q .next h₃
      | .ret v => Q (.ret v) h₃)
    (done : ∀ m₁ l₁ h, Inv vs.length m₁ l₁ → S h₀ D env.locals m₁ l₁ h → Q .next h) :
    T prog w A (PySem.call (.type "enumerate") [.ref ax]) h fun ev h₁ => T prog w A (pyIter ev) h₁ fun it h₂ => TF prog w A (.forLoop (.Tuple [.Name xi pi, .Name xv pv] k1 pt) it body [] env) h₂ Q := fun s es => by
  subst es
  refine call_enumerate_list (hl 0 m l _ h0 H) fun h₁ he hit hsz hk => ⟨h₁, s.toks, rfl, ?_⟩
  obtain ⟨oi, hoi, hci⟩ := id hit
  have n1 : s.heap.get? (s.heap.objs.size + 1) = none := by
    cases q : s.heap.get? (s.heap.objs.size + 1) with
    | none => rfl
    | some o => exact absurd (Heap.lt_size q) (Nat.not_lt.mpr (Nat.le_succ _))
  have HI : S h₀ D env.locals m (l ++ [(s.heap.objs.size, oi)]) h₁ := H.addEnd (Sub.of_keep hk) (get_size_none _) hoi
  obtain ⟨f1, f2, f3⟩ := H.fresh n1
  have HE := HI.track he f1 f2 (by
    rw [List.map_append, List.mem_append]
    exact fun q => q.elim f3 fun q => absurd (by simpa using q) (Nat.succ_ne_self s.heap.objs.size))
  rw [List.append_assoc] at HE
  have hlist : ∀ i m₁ l₁ (E : List (Addr × Obj)) h, Inv i m₁ l₁ → S h₀ D env.locals m₁ (l₁ ++ E) h → h.IsList ax vs.toArray := fun i m₁ l₁ E h hi HS => hl i m₁ l₁ h hi (HS.dropEnd (hD _ _ _ hi))
  refine fun s₁ es₁ => ?_
  subst es₁
  refine wpAny_pyIter_enum he ⟨_, s₁.toks, rfl, ?_⟩
  generalize hI : s.heap.objs.size = I at *
  refine TF.forLoop (EnmI h₀ D env.locals I ax vs Inv) ?_ vs.length ⟨0, m, l, _, _, _, rfl, h0, HE, hit, he⟩
  rintro k h ⟨i, m₁, l₁, oi, oe, old, hk', hi, HS, hit, he⟩
  intro s' es'
  subst es'
  have hL := hlist i m₁ l₁ _ _ hi HS
  have ne : I + 1 ≠ I := Nat.succ_ne_self _
  cases hv : vs[i]? with
  | none =>
    have hlen : vs.length ≤ i := by simpa using hv
    obtain rfl : i = vs.length := by (first | lia | omega)
    refine wpAny_pyNext_enum_end hh he hit hL (by first | walk_at "mem" | simp) fun h' hx => ⟨h', s'.toks, rfl, ?_⟩
    exact done m₁ l₁ h' hi ((HS.dropEnd (hD _ _ _ hi)).keepBut (Sub.ext hx) fun b hb => HS.ownEnd (hD _ _ _ hi) b (by simp at hb ⊢; exact .inl hb))
  | some v =>
    refine wpAny_pyNext_enum_item he hit hL (x := v) (by simpa using hv) ne fun h₂ heo hit₂ ht hsz₂ hk₂ => ⟨h₂, _, rfl, ?_⟩
    have own := HS.ownEnd (hD _ _ _ hi)
    have HB := HS.dropEnd (hD _ _ _ hi)
    have hnewT : s'.heap.get? s'.heap.objs.size = none := get_size_none _
    obtain ⟨o₂, ho₂, hc₂⟩ := id hit₂
    have H₂ : S h₀ D env.locals m₁ l₁ h₂ := HB.keepBut (X := [I, I + 1]) (fun b ob nb eb => hk₂ b ob (fun q => nb (by simp [q])) (fun q => nb (by simp [q])) eb) fun b hb => own b (by simpa using hb)
    intro s₂ es₂
    subst es₂
    refine wpAny_letOwnedTupleGo_enum heo fun h₃ he₃ hs₃ => ⟨h₃, s₂.toks, rfl, ?_⟩
    have H₃ : S h₀ D env.locals m₁ l₁ h₃ := H₂.keepBut (X := [I + 1]) (Sub.same hs₃) fun b hb => own b (by simp at hb ⊢; exact .inr hb)
    obtain ⟨oe₃, hoe₃, hen₃⟩ : ∃ o, h₃.get? (I + 1) = some o ∧ ∀ h : Heap, h.get? (I + 1) = some o → IsEnum h (I + 1) I ((i + 1 : Nat) : Int) v := ⟨_, he₃, fun h q => q⟩
    have hI3 : h₃.get? I = some o₂ := (hs₃.2 I ne.symm).trans ho₂
    have o1 := own I (by first | walk_at "mem" | simp)
    have o2 := own (I + 1) (by first | walk_at "mem" | simp)
    have H₃' : S h₀ D env.locals m₁ (l₁ ++ [(I, o₂), (I + 1, oe₃)]) h₃ := by
      have a1 := H₃.track hI3 o1.2.1 o1.2.2.1 o1.2.2.2
      have a2 := a1.track hoe₃ o2.2.1 o2.2.2.1 (by
        rw [List.map_append, List.mem_append]
        exact fun q => q.elim o2.2.2.2 fun q => ne (by simpa using q))
      rwa [List.append_assoc] at a2
    have hlt : i < vs.length := by
      rcases Nat.lt_or_ge i vs.length with y | y
      · exact y
      · rw [List.getElem?_eq_none y] at hv; cases hv
    have htup : h₃.IsTuple s'.heap.objs.size #[.int i s'.toks, v] := by
      refine ⟨_, (hs₃.2 _ fun q => ?_).trans ht, rfl, _, rfl⟩
      have := HS.led (I + 1, oe) (by first | walk_at "mem" | simp)
      rw [← q, hnewT] at this; cases this
    intro s₃ es₃
    subst es₃
    refine wpAny_assign_Tuple hh htup rfl rfl fun h₄ hx₄ => ?_
    have H₄ := H₃'.sub (h' := h₄) (fun b ob _ eb => hx₄ b ob (fun q => by rw [q, get_size_none] at eb; cases eb) eb)
    have step : T prog w A (assignInOrder ((assignEach [PySem.Expr.Name xi pi, .Name xv pv] env).map (·.2)) [.int i s'.toks, v]) h₄ fun _ h₅ => S h₀ D env.locals (upd (upd m₁ xi (.int i s'.toks)) xv v) (l₁ ++ [(I, o₂), (I + 1, oe₃)]) h₅ := by
      exact t_assignNames (px := pi) e (xs := [(xi, pi), (xv, pv)]) H₄ rfl (by
        intro x hx
        rcases List.mem_cons.mp hx with rfl | hx
        · exact hxi
        · rcases List.mem_singleton.mp hx with rfl
          exact hxv) fun h' H' => H'
    refine wpAny_mono (step _ rfl) ?_ fun _ _ z => z
    rintro _ s₅ ⟨h₅, t₅, rfl, H₅⟩
    refine ⟨h₅, t₅, rfl, ?_⟩
    refine (turn i v _ m₁ l₁ _ h₅ hv hi H₅).mono fun f h₆ z => ?_
    have fin : (∃ m₂ l₂, Inv (i + 1) m₂ l₂ ∧ S h₀ D env.locals m₂ (l₂ ++ [(I, o₂), (I + 1, oe₃)]) h₆) → ∃ k', k' < k ∧ EnmI h₀ D env.locals I ax vs Inv k' h₆ := by
      rintro ⟨m₂, l₂, i₂, H₆⟩
      exact ⟨k - 1, by (first | lia | omega), i + 1, m₂, l₂, _, _, v, by (first | lia | omega), i₂, H₆, ⟨o₂, H₆.get (by first | walk_at "mem" | simp), hc₂⟩, hen₃ _ (H₆.get (by first | walk_at "mem" | simp))⟩
    cases f with
    | next => exact fin z
    | cont => exact fin z
    | brk => exact z
    | ret v => exact z
end
end Mine

end
section
open PySem PySem.W PyProof.Rows PySem.Calls
set_option Elab.async false
set_option linter.unusedVariables false
set_option maxRecDepth 100000
namespace Mine
section
variable {prog : Program} {w : World} {A : Around} {h h' h₀ : Heap} {env : Env} {D : List Addr} {L : Addr} {m m' : Str → Option Value} {l l' : List (Addr × Obj)} {K : Frag}

structure FnOk (K : Frag) (f : Addr) (fd : FuncData) (body : List Stmt) : Prop where
  lk : ∃ o, K.lookup f = some o ∧ o.data = .func fd
  cd : codeIn K fd.code fd.qualname = true
  body : fd.body = .stmts body
  cell : (fd.scope.names.all fun x => x.2 != .cell) = true
  co : fd.scope.isCoroutine = false
  gen : fd.scope.isGenerator = false
  kind : fd.scope.kind = .function
  glob : fd.globals = mainGlobals
  blt : fd.builtins = builtinsNs
theorem FnOk.ok {f : Addr} {fd : FuncData} {body : List Stmt} (F : FnOk K f fd body) (L : Addr) : EnvOk (callEnv fd L f) := ⟨F.kind, F.glob, F.blt, by
  unfold interactive; simp [callEnv, newEnv, F.kind]⟩
theorem TC.def {f : Addr} {fd : FuncData} {body : List Stmt} {args : List Value} {binds : List (Str × Value)} {Q : Value → Heap → Prop} (lD : List (Addr × Obj)) (F : FnOk K f fd body) (G : Gr K h) (hroom : A.depth < recursionLimit)
    (hbind : bindArgs fd ⟨args, []⟩ = Pure.pure binds) (hloc : (binds.map (·.1)).all (fun x => decide (fd.scope.names.lookup x = some .local)) = true) (hl : ∀ p ∈ lD, h.get? p.1 = some p.2) (nd : (lD.map (·.1)).Nodup)
    (k : ∀ h₁ L, S h (lD.map (·.1)) L (bindM binds) lD h₁ → T prog w (A.deeper (callEnv fd L f)) (execs body (callEnv fd L f)) h₁ fun fl h' => Q (match fl with | .ret v => v | _ => .none) h') : TC prog w A (.call (.ref f) ⟨args, []⟩) h Q := by
  obtain ⟨o, ho, hd⟩ := F.lk
  refine TC.fn lD hroom (G.k _ _ ho) hd G.nolimit (codeRec_of G.k F.cd) F.body hbind (fun x hx => ?_) (fun x hx => ?_) hl nd (fun h₁ L H _ => k h₁ L H) F.co F.gen F.kind
  · have := List.all_eq_true.mp F.cell x hx
    simpa using this
  · have := List.all_eq_true.mp hloc x.1 (List.mem_map_of_mem hx)
    exact of_decide_eq_true this

theorem t_getMethodB {a : Addr} {o : Obj} {T' : String} {name : Str} {id : String} {pl : Sem Bool} {Q : Value × List Value → Heap → Prop} (ho : h.get? a = some o) (hc : o.cls = .type T') (hd : o.dict = none) (pa : PlainAttrs T') (slot : Slot T' name id)
    (hty : typeOf (.builtin id) = Pure.pure (.type "method_descriptor")) (q : Q (.builtin id, [.ref a]) h) : T prog w A (getMethod (.ref a) name pl) h Q := fun s es => by
  subst es
  exact getMethod_builtin (T := T') ⟨o, ho, hc⟩ pa slot hty (fun b e => by cases e; exact ⟨o, ho, hd⟩) ⟨_, s.toks, rfl, q⟩
theorem IsDic.cls {o : Obj} {kvs : List (Int × Value)} (x : IsDic prog w o kvs) : o.cls = .type "dict" ∧ o.dict = none := let ⟨_, _, a, _⟩ := x; ⟨a.1, a.2.1⟩
theorem IsLst.cls {o : Obj} {vs : List Value} (x : IsLst o vs) : o.cls = .type "list" ∧ o.dict = none := let ⟨_, e⟩ := x; by subst e; exact ⟨rfl, rfl⟩

theorem t_isTrue_plain {e : PySem.Expr} {whole : Sem Value} {Q : Bool → Heap → Prop} (t : T prog w A whole h fun v h₁ => T prog w A (truthy v) h₁ Q) (he : isTrue e env whole = (do let v ← whole; PySem.standAt e.pos; PySem.holding [v] (truthy v)) := by rfl) : T prog w A (isTrue e env whole) h Q :=
  T.eq he (T.bind (t.mono fun v h₁ x => T.bind (T.standAt (T.holding x))))
theorem t_truthy_none {Q : Bool → Heap → Prop} (q : Q false h) : T prog w A (truthy .none) h Q := fun s es => by subst es; exact truthy_none ⟨_, s.toks, rfl, q⟩
theorem t_truthy_int {i : Int} {t : Tok} {Q : Bool → Heap → Prop} (q : Q (i != 0) h) : T prog w A (truthy (.int i t)) h Q := fun s es => by subst es; exact PyProof.Rows.truthy_int ⟨_, s.toks, rfl, q⟩
theorem t_isTrue_and {x : PySem.Expr} {rest : List PySem.Expr} {pos : Pos} {whole : Sem Value} {Q : Bool → Heap → Prop} (t : T prog w A (isTrue x env (eval x env)) h fun c h₁ => if c = true then T prog w A (isTrue (.BoolOp .And rest pos) env whole) h₁ Q else Q false h₁) :
    T prog w A (isTrue (.BoolOp .And (x :: rest) pos) env whole) h Q := fun s es => isTrue_and (wpAny_mono (t s es) (by
      rintro c s₁ ⟨h₁, t₁, rfl, z⟩
      cases c with
      | true => exact wpAny_mono (z _ rfl) (by rintro vs s₂ ⟨h₂, t₂, rfl, z⟩; exact ⟨h₂, t₂, rfl, z⟩) fun _ _ z => z
      | false => exact ⟨_, _, rfl, z⟩) fun _ _ z => z)
theorem t_set0 {Q : Value → Heap → Prop} (q : ∀ a h' led, Sub [] h h' → h.get? a = none → h'.get? a = some { cls := .type "set", dict := none, data := .set #[] 0 (.fresh 0 0 led) } → Q (.ref a) h') : T prog w A (PySem.call (.type "set") []) h Q := fun s es => by
  subst es
  exact call_set_0 fun led => ⟨_, s.toks, rfl, q _ _ led (Sub.push _ _) (get_size_none _) (get_push_self _ _)⟩
theorem t_len {a : Addr} {vs : List Value} {Q : Value → Heap → Prop} (hl : h.IsList a vs.toArray) (hz : vs.length < 2 ^ 62) (q : ∀ t, Q (.int vs.length t) h) : T prog w A (PySem.call (.builtin "len") [.ref a]) h Q := fun s es => by
  subst es
  refine call_len_list hl (by simp only [List.size_toArray]; (first | lia | omega)) ⟨_, _, rfl, ?_⟩
  simp only [List.size_toArray]
  exact q _
theorem t_Assign2 {t₁ t₂ value : PySem.Expr} {pos : Pos} {Q : Flow → Heap → Prop} (t : T prog w A (eval value env) h fun v h₁ => T prog w A (assign t₁ env v) h₁ fun _ h₂ => T prog w A (assign t₂ env v) h₂ fun _ => Q .next)
    (he : (assignEach [t₁, t₂] env).map (·.2) = [assign t₁ env, assign t₂ env] := by rfl) (hw : swappedStores [t₁, t₂] value env = Pure.pure none := by rfl) : T prog w A (exec (.Assign [t₁, t₂] value pos) env) h Q := fun s es =>
  wpAny_Assign_two (wpAny_mono (t s es) (by
    rintro v s₁ ⟨h₁, t₁, rfl, y⟩
    refine wpAny_mono (y _ rfl) (by
      rintro _ s₂ ⟨h₂, t₂, rfl, z⟩
      exact wpAny_mono (z _ rfl) (by rintro vs s₂ ⟨h₂, t₂, rfl, z⟩; exact ⟨h₂, t₂, rfl, z⟩) fun _ _ z => z) fun _ _ z => z) fun _ _ z => z) he hw
theorem t_assignAttr {o : PySem.Expr} {attr : Str} {pos : Pos} {v : Value} {Q : Unit → Heap → Prop} (t : T prog w A (eval o env) h fun ov h₁ => T prog w A (PySem.setAttr ov attr v) h₁ Q) : T prog w A (assign (.Attribute o attr pos) env v) h Q := fun s es => by
  rw [assign_Attribute]
  refine wpAny_bind (wpAny_holding (wpAny_mono (t s es) (by
    rintro ov s₁ ⟨h₁, t₁, rfl, y⟩
    refine wpAny_bind (wpAny_standAt (wpAny_bind (wpAny_holding (wpAny_mono (y _ rfl) (by
      rintro _ s₂ ⟨h₂, t₂, rfl, z⟩
      exact wpAny_release ⟨h₂, t₂, rfl, z⟩) fun _ _ z => z))))) fun _ _ z => z))
theorem t_Assign_Attr {o value : PySem.Expr} {attr : Str} {pa pos : Pos} {Q : Flow → Heap → Prop} (t : T prog w A (eval value env) h fun v h₁ => T prog w A (eval o env) h₁ fun ov h₂ => T prog w A (PySem.setAttr ov attr v) h₂ fun _ => Q .next)
    (hs : swapsWith value (some (.Attribute o attr pa)) pos.line env = Pure.pure false := by rfl) : T prog w A (exec (.Assign [.Attribute o attr pa] value pos) env) h Q := fun s es =>
  plainObj_wpAny_Assign_Attribute (wpAny_mono (t s es) (by
    rintro v s₁ ⟨h₁, t₁, rfl, y⟩
    refine wpAny_mono (y _ rfl) (by
      rintro _ s₂ ⟨h₂, t₂, rfl, z⟩
      exact wpAny_mono (z _ rfl) (by rintro vs s₂ ⟨h₂, t₂, rfl, z⟩; exact ⟨h₂, t₂, rfl, z⟩) fun _ _ z => z) fun _ _ z => z) fun _ _ z => z) hs
end
end Mine

end
section
open PySem PySem.W PyProof.Rows PySem.Calls
set_option Elab.async false
set_option linter.unusedVariables false
set_option maxRecDepth 100000
set_option maxHeartbeats 4000000
namespace Mine
noncomputable abbrev aSM : Addr := at_SequenceMatcher
theorem plainSM (P : Params) : Plain (frag P) aSM := ⟨by kernel_rfl!, by kernel_rfl!, by kernel_rfl!, by kernel_rfl!, by kernel_rfl!⟩
noncomputable def attrN : List Str := [Str.ofString "isjunk", Str.ofString "a", Str.ofString "b", Str.ofString "autojunk", Str.ofString "matching_blocks", Str.ofString "opcodes", Str.ofString "fullbcount", Str.ofString "b2j", Str.ofString "bjunk", Str.ofString "bpopular"]
theorem attr_none (P : Params) : (attrN.all fun x => findIn (frag P) (.ref aSM) x == some none) = true := by kernel_rfl!
theorem attr_take (P : Params) : (attrN.all fun x => takerIn (frag P) aSM x == some none) = true := by kernel_rfl!
theorem attrFind (P : Params) {x : Str} (hx : x ∈ attrN) : findIn (frag P) (.ref aSM) x = some none := beq_iff_eq.mp (List.all_eq_true.mp (attr_none P) x hx)
theorem attrTake (P : Params) {x : Str} (hx : x ∈ attrN) : takerIn (frag P) aSM x = some none := beq_iff_eq.mp (List.all_eq_true.mp (attr_take P) x hx)
theorem fn_chain_b (P : Params) : FnOk (frag P) at_SequenceMatcher_chain_b fdOf_SequenceMatcher_chain_b (bodyN (stN (bodyN (stN pwBody 5)) 5)) :=
  ⟨⟨obOf_SequenceMatcher_chain_b P, by kernel_rfl!, rfl⟩, by kernel_rfl!, by kernel_rfl!, by kernel_rfl!, by kernel_rfl!, by kernel_rfl!, by kernel_rfl!, by kernel_rfl!, by kernel_rfl!⟩
end Mine

end
section
open PySem PySem.W PyProof.Rows PySem.Calls
set_option Elab.async false
set_option linter.unusedVariables false
set_option maxRecDepth 100000
namespace Mine
section
variable {prog : Program} {w : World} {A : Around} {h h' h₀ : Heap} {env : Env} {D : List Addr} {L : Addr} {m m' : Str → Option Value} {l l' : List (Addr × Obj)} {K : Frag}

theorem TC.fnB {f : Addr} {o : Obj} {fd : FuncData} {body : List Stmt} {args : Args} {binds : List (Str × Value)} {Q : Value → Heap → Prop} (lD : List (Addr × Obj))
    (hroom : A.depth < recursionLimit) (ho : h.get? f = some o) (hdata : o.data = .func fd) (hlim : h.NoLimit) (hcd : h.CodeRec fd.code fd.qualname) (hbody : fd.body = .stmts body) (hbind : ∀ s : Shared, s.heap = h → BindsTo s fd args binds)
    (hcell : ∀ x ∈ fd.scope.names, x.2 ≠ .cell) (hloc : ∀ x ∈ binds, fd.scope.names.lookup x.1 = some .local)
    (hl : ∀ p ∈ lD, h.get? p.1 = some p.2) (nd : (lD.map (·.1)).Nodup)
    (k : ∀ h₁ L, S h (lD.map (·.1)) L (bindM binds) lD h₁ → h.get? L = none → T prog w (A.deeper (callEnv fd L f)) (execs body (callEnv fd L f)) h₁ fun fl h' => Q (match fl with | .ret v => v | _ => .none) h')
    (hco : fd.scope.isCoroutine = false) (hgen : fd.scope.isGenerator = false) (hk : fd.scope.kind = .function) : TC prog w A (.call (.ref f) args) h Q := fun s e => by
  subst e
  refine codeAny_call_def (binds := binds) hroom ho hdata hlim hcd hbody (hbind _ rfl) hcell hloc (fun h₁ hns hkeep => ?_) hco hgen hk
  have H : S s.heap (lD.map (·.1)) s.heap.objs.size (bindM binds) lD h₁ := {
    base := fun b o _ e => hkeep b o e
    ns := by rw [← bindM_eq]; exact hns
    led := fun p hp => hkeep _ _ (hl p hp)
    own := fun p hp => .inl (List.mem_map_of_mem hp)
    nodup := nd
    offL := fun q => by
      obtain ⟨p, hp, e⟩ := List.mem_map.mp q
      have := hl p hp
      rw [e, get_size_none] at this; cases this
    newL := get_size_none _
    dl := fun d hd => hd }
  refine wpAny_mono (k h₁ _ H (get_size_none _) _ rfl) (by
    rintro fl s' ⟨h', tk, rfl, q⟩
    exact ⟨_, _, _, rfl, rfl, q⟩) fun _ _ z => z.elim
theorem TC.defB {f : Addr} {fd : FuncData} {body : List Stmt} {args : List Value} {binds : List (Str × Value)} {Q : Value → Heap → Prop} (lD : List (Addr × Obj)) (F : FnOk K f fd body) (G : Gr K h) (hroom : A.depth < recursionLimit)
    (hbind : ∀ s : Shared, s.heap = h → BindsTo s fd ⟨args, []⟩ binds) (hloc : (binds.map (·.1)).all (fun x => decide (fd.scope.names.lookup x = some .local)) = true) (hl : ∀ p ∈ lD, h.get? p.1 = some p.2) (nd : (lD.map (·.1)).Nodup)
    (k : ∀ h₁ L, S h (lD.map (·.1)) L (bindM binds) lD h₁ → T prog w (A.deeper (callEnv fd L f)) (execs body (callEnv fd L f)) h₁ fun fl h' => Q (match fl with | .ret v => v | _ => .none) h') : TC prog w A (.call (.ref f) ⟨args, []⟩) h Q := by
  obtain ⟨o, ho, hd⟩ := F.lk
  refine TC.fnB lD hroom (G.k _ _ ho) hd G.nolimit (codeRec_of G.k F.cd) F.body hbind (fun x hx => ?_) (fun x hx => ?_) hl nd (fun h₁ L H _ => k h₁ L H) F.co F.gen F.kind
  · have := List.all_eq_true.mp F.cell x hx
    simpa using this
  · have := List.all_eq_true.mp hloc x.1 (List.mem_map_of_mem hx)
    exact of_decide_eq_true this

theorem bindsK {K : Frag} {h : Heap} {fd : FuncData} {args : Args} {binds : List (Str × Value)} {T : Addr} {o : Obj} {items : Array Value} {n : Nat} {k : Option (Array Value) → Sem (List (Str × Value))} (X : K.In h) (hd : fd.defaults = .ref T) (ho : K.lookup T = some o) (hs : o.data = .seq items n)
    (h₁ : bindArgs fd args = seqItems? fd.defaults >>= k) (h₂ : k (some items) = pure binds) : ∀ s : Shared, s.heap = h → BindsTo s fd args binds := fun s e => BindsTo.of_defaults hd (e ▸ X _ _ ho) hs h₁ h₂
end
end Mine

end
section
open PySem PySem.W PyProof.Rows PySem.Calls
set_option Elab.async false
set_option linter.unusedVariables false
set_option maxRecDepth 100000
namespace Mine
section
variable {prog : Program} {w : World} {A : Around} {h h' h₀ : Heap} {env : Env} {D : List Addr} {L : Addr} {m m' : Str → Option Value} {l l' : List (Addr × Obj)} {K : Frag}
end
end Mine

end
section
open PySem PySem.W PyProof.Rows PySem.Calls
set_option Elab.async false
set_option linter.unusedVariables false
set_option maxRecDepth 100000
namespace Mine
section
variable {prog : Program} {w : World} {A : Around} {h h' h₀ : Heap} {env : Env} {D : List Addr} {L : Addr} {m m' : Str → Option Value} {l l' : List (Addr × Obj)} {K : Frag}
theorem blockKind_of (e : EnvOk env) : env.blockKind = .function := by unfold Env.blockKind; rw [e.kind]; rfl
theorem sw_scope {ts : List PySem.Expr} {v : PySem.Expr} {env' : Env} (hs : env.scope = env'.scope) : swappedStores ts v env = swappedStores ts v env' := by
  cases env
  cases env'
  cases hs
  rfl
theorem IsTupO.isTup {a : Addr} {o : Obj} {vs : List Value} (ho : h.get? a = some o) (x : IsTupO o vs) : IsTup h a vs.toArray := let ⟨n, e⟩ := x; ⟨o, ho, by rw [e], n, by rw [e]⟩
theorem t_bindNames (e : EnvOk env) : ∀ {xs : List Str} {vs : List Value} {h : Heap} {m : Str → Option Value} {Q : Unit → Heap → Prop}, S h₀ D env.locals m l h → xs.length = vs.length → (∀ x ∈ xs, env.kindOf x = some .local) →
    (∀ h', S h₀ D env.locals (updAll m xs vs) l h' → Q () h') → T prog w A (assignInOrder (xs.map fun n => bindName env n) vs) h Q
  | [], [], h, m, Q, H, _, _, q => T.pure (q h H)
  | x :: xs, v :: vs, h, m, Q, H, hn, hk, q => by
    refine T.eq (t' := (do PySem.holding vs (bindName env x v); assignInOrder (xs.map fun n => bindName env n) vs)) rfl ?_
    refine T.bind (T.holding ?_)
    exact fun s es => bindName_ (T.storeName e H (fun h' H' => t_bindNames e H' (by simpa using hn) (fun x hx => hk x (.tail _ hx)) q) (hk x (.head _)) s es)
  | [], _ :: _, _, _, _, _, hn, _, _ => by simp at hn
  | _ :: _, [], _, _, _, _, hn, _, _ => by simp at hn
theorem t_unpack {t : Addr} {o : Obj} {vs : List Value} {n : Nat} {Q : List Value → Heap → Prop} (hh : A.handled = none) (ho : h.get? t = some o) (ht : IsTupO o vs) (hn : n = vs.length) (q : ∀ h', Sub [] h h' → Q vs h') : T prog w A (unpackItems (.ref t) n none) h Q := fun s es => by
  subst es hn
  have := unpackItems_tuple (prog := prog) (w := w) (A := A) (E := fun _ _ => False) (Q := fun a s' => ∃ h' tk, s' = { s with heap := h', toks := tk } ∧ Q a h') hh (ht.isTup ho) fun h' hx => ⟨h', s.toks, rfl, q h' fun b o _ eb => hx b o (fun q => by rw [q, get_size_none] at eb; cases eb) eb⟩
  simpa using this
theorem t_AssignSwap {elts : List PySem.Expr} {k k' : Nat} {tpos vpos pos : Pos} {vals : List PySem.Expr} {names : List Str} {Q : Flow → Heap → Prop} (e : EnvOk env) (hh : A.handled = none)
    (x : TArgs prog w A env vals h fun vs h₁ => vs.length ≤ sizeLine ∧ vs.length = names.length ∧ ∃ m l, S h₀ D env.locals m l h₁ ∧ ∀ h', S h₀ D env.locals (updAll m names.reverse vs.reverse) l h' → Q .next h')
    (hk : ∀ y ∈ names, env.kindOf y = some .local) (hw : swappedStores [.Tuple elts k tpos] (.Tuple vals k' vpos) env = pure (some names)) (hst : noStars vals = true)
    (hs : swapsWithSole [.Tuple elts k tpos] (.Tuple vals k' vpos) pos.line env = pure false := by rfl) : T prog w A (exec (.Assign [.Tuple elts k tpos] (.Tuple vals k' vpos) pos) env) h Q := by
  have main : T prog w A (eval (.Tuple vals k' vpos) env) h fun v h₁ => T prog w A (unpackItems v names.length none) h₁ fun items h₂ => T prog w A (assignInOrder (names.reverse.map fun n => bindName env n) items.reverse) h₂ fun _ => Q .next := by
    refine t_Tuple (x.mono fun vs h₁ z => ⟨z.1, fun a h₂ o s₂ n₂ g₂ t₂ => ?_⟩) hst
    obtain ⟨_, hlen, m, l, H, q⟩ := z
    refine t_unpack hh g₂ t₂ hlen.symm fun h₃ s₃ => ?_
    exact t_bindNames e ((H.sub s₂).sub s₃) (by simp [hlen]) (fun y hy => hk y (by simpa using hy)) fun h' H' => q h' H'
  exact fun s es => Assign_Tuple_swapped (wpAny_mono (main s es) (by
    rintro v s₁ ⟨h₁, t₁, rfl, y⟩
    refine wpAny_mono (y _ rfl) (by
      rintro items s₂ ⟨h₂, t₂, rfl, z⟩
      exact wpAny_mono (z _ rfl) (by rintro _ s₃ ⟨h₃, t₃, rfl, q⟩; exact ⟨h₃, t₃, rfl, q⟩) fun _ _ z => z) fun _ _ z => z) fun _ _ z => z) hs hw
theorem IsTupO.isTuple {a : Addr} {o : Obj} {vs : List Value} (ho : h.get? a = some o) (x : IsTupO o vs) : h.IsTuple a vs.toArray := let ⟨n, e⟩ := x; ⟨o, ho, by rw [e], n, by rw [e]⟩
end
end Mine

end
section
open PySem PySem.W PyProof.Rows PySem.Calls
set_option Elab.async false
set_option linter.unusedVariables false
set_option maxRecDepth 100000
namespace Mine
section
variable {prog : Program} {w : World} {A : Around} {h h' h₀ : Heap} {env : Env} {D : List Addr} {L : Addr} {m m' : Str → Option Value} {l l' : List (Addr × Obj)} {K : Frag}
end
end Mine

end
section
open PySem PySem.W PyProof.Rows PySem.Calls
set_option Elab.async false
set_option linter.unusedVariables false
set_option maxRecDepth 100000
set_option maxHeartbeats 4000000
namespace Mine
section
variable {prog : Program} {w : World} {A : Around} {K : Frag} {C : Addr} {R : Result → Shared → Prop} {h : Heap} {g : Array GenState} {d : Drawn} {t : Nat} {os : OsState}
end
end Mine

end
section
open PySem PySem.W PyProof.Rows PySem.Calls
set_option Elab.async false
set_option linter.unusedVariables false
set_option maxRecDepth 100000
set_option maxHeartbeats 4000000
namespace Mine
section
variable {prog : Program} {w : World} {A : Around} {h h' h₀ : Heap} {M : Model}
local macro_rules | `(tactic| walk_at "nm") => `(tactic| refine T.Name (by assumption) (by assumption) (by walk_at "look") ?_ (by assumption) (by decide +kernel))
end
end Mine

end
local macro_rules | `(tactic| walk_at "nm") => `(tactic| refine Mine.T.Name (by assumption) (by assumption) (by walk_at "look") ?_ (by assumption) (by decide +kernel))
section
open PySem PySem.W PyProof.Rows PySem.Calls
set_option Elab.async false
set_option linter.unusedVariables false
namespace Mine
section
variable {key : Nat → Int} {n : Nat} {p : Array Nat}
end
end Mine

end
section
open PySem PySem.W PyProof.Rows PySem.Calls
set_option Elab.async false
set_option linter.unusedVariables false
set_option maxRecDepth 100000
set_option maxHeartbeats 4000000
namespace Mine
section
variable {prog : Program} {w : World} {A : Around} {E : Value → Shared → Prop} {s : Shared} {h h' h₀ : Heap}
end
end Mine

end
section
open PySem PySem.W PyProof.Rows PySem.Calls
set_option Elab.async false
set_option linter.unusedVariables false
set_option maxRecDepth 100000
set_option maxHeartbeats 4000000
namespace Mine
section
variable {prog : Program} {w : World} {A : Around} {h h' h₀ : Heap}
end
end Mine

end
section
open PySem PySem.W PyProof.Rows PySem.Calls
set_option Elab.async false
set_option linter.unusedVariables false
set_option maxRecDepth 100000
set_option maxHeartbeats 4000000
namespace Mine
section
variable {prog : Program} {w : World} {A : Around} {E : Value → Shared → Prop} {s : Shared} {h h' h₀ : Heap}
end
end Mine

end
section
set_option linter.unusedVariables false
namespace Mine
section
variable (a b : List Int) (alo ahi blo bhi : Nat)
noncomputable def run : Nat → Nat → Nat
  | i + 1, j + 1 => if alo ≤ i ∧ blo ≤ j ∧ i < a.length ∧ a[i]? = b[j]? then run i j + 1 else 0
  | _, _ => 0
variable {a b alo ahi blo bhi}
variable (a b alo blo)
variable {a b alo blo}
end
end Mine

end
section
open PySem PySem.W PyProof.Rows PySem.Calls
set_option Elab.async false
set_option linter.unusedVariables false
set_option maxRecDepth 100000
set_option maxHeartbeats 4000000
namespace Mine

section
variable {prog : Program} {w : World} {A : Around} {h h' h₀ : Heap}

noncomputable def places : List Int → Int → Nat → List Int
  | [], _, _ => []
  | n :: r, k, i => if n = k then (i : Int) :: places r k (i + 1) else places r k (i + 1)
theorem places_append : ∀ (ps : List Int) (n k : Int) (i : Nat), places (ps ++ [n]) k i = places ps k i ++ if n = k then [((i + ps.length : Nat) : Int)] else []
  | [], n, k, i => by simp [places]
  | p :: ps, n, k, i => by
    rw [List.cons_append, places, places, places_append ps n k (i + 1)]
    split <;> simp [Nat.add_comm, Nat.add_left_comm]
theorem places_not {ps : List Int} {k : Int} : ∀ {i : Nat}, k ∉ ps → places ps k i = [] := by
  induction ps with
  | nil => intro i _; rfl
  | cons p ps ih =>
    intro i hk
    rw [places, if_neg (fun q => hk (by simp [q])), ih (fun q => hk (.tail _ q))]

structure FamOk (ps : List Int) (kvs : List (Int × Value)) (fam : List (Addr × Obj)) : Prop where
  there : ∀ k ∈ ps, ∃ a o us, valueAt kvs k = some (.ref a) ∧ (a, o) ∈ fam ∧ IsLst o us ∧ IntsAre us (places ps k 0)
  no : ∀ k, k ∉ ps → valueAt kvs k = none
  inj : ∀ k k' a, valueAt kvs k = some (.ref a) → valueAt kvs k' = some (.ref a) → k = k'
  len : kvs.length ≤ ps.length
theorem valueAt_snoc {kvs : List (Int × Value)} {n k : Int} {v : Value} (hn : valueAt kvs n = none) : valueAt (kvs ++ [(n, v)]) k = if k = n then some v else valueAt kvs k := by
  unfold valueAt at *
  rw [List.find?_append]
  by_cases e : k = n
  · subst e
    have : kvs.find? (fun kv => decide (kv.1 = k)) = none := by
      cases q : kvs.find? (fun kv => decide (kv.1 = k)) with
      | none => rfl
      | some x => rw [q] at hn; cases hn
    simp [this]
  · have : ¬ n = k := fun q => e q.symm
    simp [e, this]
theorem intsAre_snoc {us : List Value} {qs : List Int} {n : Int} {t : Tok} (x : IntsAre us qs) : IntsAre (us ++ [.int n t]) (qs ++ [n]) := by
  induction x with
  | nil => exact .cons n t .nil
  | cons a b _ ih => exact .cons a b ih
theorem FamOk.old {ps : List Int} {kvs : List (Int × Value)} {fam : List (Addr × Obj)} (F : FamOk ps kvs fam) {n : Int} {a : Addr} {o o' : Obj} {us : List Value} {t : Tok} {j : Nat} (hn : valueAt kvs n = some (.ref a)) (hj : fam[j]? = some (a, o))
    (hl : IsLst o us) (hu : IntsAre us (places ps n 0)) (hl' : IsLst o' (us ++ [.int ps.length t])) (hp : n ∈ ps) : FamOk (ps ++ [n]) kvs (fam.set j (a, o')) where
  there := fun k hk => by
    by_cases e : k = n
    · subst e
      refine ⟨a, o', _, hn, List.mem_iff_getElem?.mpr ⟨j, ?_⟩, hl', ?_⟩
      · have : j < fam.length := by
          rcases Nat.lt_or_ge j fam.length with y | y
          · exact y
          · rw [List.getElem?_eq_none y] at hj; cases hj
        rw [List.getElem?_set_self this]
      · rw [places_append, if_pos rfl, Nat.zero_add]
        exact intsAre_snoc hu
    · have hk' : k ∈ ps := by
        rcases List.mem_append.mp hk with y | y
        · exact y
        · exact absurd (by simpa using y) e
      obtain ⟨b, ob, us', h1, h2, h3, h4⟩ := F.there k hk'
      refine ⟨b, ob, us', h1, ?_, h3, ?_⟩
      · obtain ⟨i, hi⟩ := List.mem_iff_getElem?.mp h2
        refine List.mem_iff_getElem?.mpr ⟨i, ?_⟩
        rw [List.getElem?_set_ne, hi]
        intro q
        subst q
        rw [hj] at hi
        have : a = b := (Prod.mk.inj (Option.some.inj hi)).1
        subst this
        exact e (F.inj k n a h1 hn)
      · rw [places_append, if_neg (fun q => e q.symm), List.append_nil]; exact h4
  no := fun k hk => F.no k fun q => hk (List.mem_append_left _ q)
  inj := F.inj
  len := by have := F.len; rw [List.length_append]; (first | lia | omega)
theorem FamOk.new {ps : List Int} {kvs : List (Int × Value)} {fam : List (Addr × Obj)} (F : FamOk ps kvs fam) {n : Int} {a : Addr} {o' : Obj} {t : Tok} (hn : valueAt kvs n = none) (ha : a ∉ fam.map (·.1))
    (hl' : IsLst o' [.int ps.length t]) : FamOk (ps ++ [n]) (kvs ++ [(n, .ref a)]) ((a, o') :: fam) := by
  have hp : n ∉ ps := fun q => by
    obtain ⟨b, _, _, h1, _⟩ := F.there n q
    rw [hn] at h1; cases h1
  have hfam : ∀ k b, valueAt kvs k = some (.ref b) → b ≠ a := fun k b hb q => by
    by_cases e : k ∈ ps
    · obtain ⟨b', ob, us', h1, h2, _⟩ := F.there k e
      rw [h1] at hb
      cases hb
      subst q
      exact ha (List.mem_map.mpr ⟨_, h2, rfl⟩)
    · rw [F.no k e] at hb; cases hb
  refine { there := fun k hk => ?_, no := fun k hk => ?_, inj := fun k k' b h1 h2 => ?_, len := by have := F.len; simp; exact this }
  · rw [valueAt_snoc hn]
    by_cases e : k = n
    · subst e
      refine ⟨a, o', _, if_pos rfl, .head _, hl', ?_⟩
      rw [places_append, if_pos rfl, places_not hp, Nat.zero_add]
      exact .cons _ _ .nil
    · have hk' : k ∈ ps := by
        rcases List.mem_append.mp hk with y | y
        · exact y
        · exact absurd (by simpa using y) e
      obtain ⟨b, ob, us', h1, h2, h3, h4⟩ := F.there k hk'
      refine ⟨b, ob, us', by rw [if_neg e]; exact h1, .tail _ h2, h3, ?_⟩
      rw [places_append, if_neg (fun q => e q.symm), List.append_nil]; exact h4
  · rw [valueAt_snoc hn, if_neg (fun q => hk (by simp [q]))]
    exact F.no k fun q => hk (List.mem_append_left _ q)
  · rw [valueAt_snoc hn] at h1 h2
    by_cases e : k = n
    · by_cases e' : k' = n
      · rw [e, e']
      · rw [if_pos e] at h1; rw [if_neg e'] at h2
        cases h1
        exact absurd rfl (hfam k' _ h2)
    · rw [if_neg e] at h1
      by_cases e' : k' = n
      · rw [if_pos e'] at h2
        cases h2
        exact absurd rfl (hfam k _ h1)
      · rw [if_neg e'] at h2; exact F.inj k k' b h1 h2

theorem chain_turn {x dx d : Addr} {od ob : Obj} {ps : List Int} {kvs : List (Int × Value)} {fam E : List (Addr × Obj)} {env : Env} {m : Str → Option Value} {n : Int} {t t' : Tok} {px : List Stmt}
    (e : EnvOk env) (hk : ∀ y ∈ [Str.ofString "i", Str.ofString "elt", Str.ofString "indices", Str.ofString "b2j"], env.kindOf y = some .local)
    (hm : m (Str.ofString "b2j") = some (.ref d)) (lo : (d == sysModules) = false) (hd : IsDic prog w ob kvs) (hf : FamOk ps kvs fam) (hz : ps.length < 100000)
    (H : S h₀ [dx] env.locals (upd (upd m (Str.ofString "i") (.int ps.length t)) (Str.ofString "elt") (.int n t')) ((dx, od) :: (d, ob) :: fam ++ E) h) :
    T prog w A (execs (match stN (bodyN (stN (bodyN (stN pwBody 5)) 5)) 2 with | .For _ _ b _ _ => b | _ => []) env) h fun f h₃ => match f with
      | .next => ∃ m₂ ob' kvs' fam', (∀ y, y ≠ Str.ofString "i" → y ≠ Str.ofString "elt" → y ≠ Str.ofString "indices" → m₂ y = m y) ∧ IsDic prog w ob' kvs' ∧ FamOk (ps ++ [n]) kvs' fam' ∧ S h₀ [dx] env.locals m₂ ((dx, od) :: (d, ob') :: fam' ++ E) h₃
      | _ => False := by
  have k1 := hk (Str.ofString "i") (by first | walk_at "mem" | simp)
  have k2 := hk (Str.ofString "elt") (by first | walk_at "mem" | simp)
  have k3 := hk (Str.ofString "indices") (by first | walk_at "mem" | simp)
  have k4 := hk (Str.ofString "b2j") (by first | walk_at "mem" | simp)
  have hgd : h.get? d = some ob := H.get (by first | walk_at "mem" | simp)
  refine T.execs_cons (T.Assign_Name (T.Call_method ?_))
  refine T.Name e H (by walk_at "look") ?_ k4 (by decide +kernel)
  refine t_getMethodB hgd hd.cls.1 hd.cls.2 PySem.F.plainAttrs_dict PySem.F.slot_dict_setdefault PySem.F.type_dict_setdefault ?_
  refine T.callWith ?_ rfl
  refine T.Name e H (by walk_at "look") ?_ k2 (by decide +kernel)
  refine t_List ?_ rfl
  refine ⟨by decide, fun a₀ h₁ o₀ s₁ n₁ g₁ l₁ => ⟨Keeps.builtin, ?_⟩⟩
  have H₁ := H.add s₁ n₁ g₁
  have hgd₁ : h₁.get? d = some ob := H₁.get (by first | walk_at "mem" | simp)
  have rest : ∀ {a : Addr} {o : Obj} {us : List Value} {h₂ : Heap} {l : List (Addr × Obj)} (j : Nat), l[j]? = some (a, o) → IsLst o us → us.length ≤ sizeLine →
      S h₀ [dx] env.locals (upd (upd m (Str.ofString "i") (.int ps.length t)) (Str.ofString "elt") (.int n t')) l h₂ →
      ∀ Q : Flow → Heap → Prop, (∀ h' o', IsLst o' (us ++ [.int ps.length t]) → S h₀ [dx] env.locals (upd (upd (upd m (Str.ofString "i") (.int ps.length t)) (Str.ofString "elt") (.int n t')) (Str.ofString "indices") (.ref a)) (l.set j (a, o')) h' → Q .next h') →
      T prog w A (storeName env (Str.ofString "indices") (.ref a)) h₂ fun _ h' => T prog w A (execs (match (match stN (bodyN (stN (bodyN (stN pwBody 5)) 5)) 2 with | .For _ _ b _ _ => b | _ => []) with | _ :: r => r | [] => []) env) h' Q := by
    intro a o us h₂ l j hj hl hz' H₂ Q q
    refine T.storeName e H₂ (fun h₃ H₃ => ?_) k3
    have ga : h₃.get? a = some o := H₃.get (List.mem_of_getElem? hj)
    refine T.execs_cons (T.Expr (T.Call_method ?_) e.inter)
    refine T.Name e H₃ (by walk_at "look") ?_ k3 (by decide +kernel)
    refine t_getMethodB ga hl.cls.1 hl.cls.2 PySem.F.plainAttrs_list PySem.F.slot_list_append PySem.F.type_list_append ?_
    refine T.callWith ?_ rfl
    refine T.Name e H₃ (by walk_at "look") ?_ k1 (by decide +kernel)
    refine ⟨Keeps.builtin, t_append ga hl hz' fun h₄ o₄ s₄ g₄ l₄ => ⟨(fun b q => by cases q), ?_⟩⟩
    exact T.execs_nil (q h₄ o₄ l₄ (H₃.upd j hj s₄ g₄))
  have hsz : kvs.length ≤ sizeLine := by rw [sizeLine_eq]; have := hf.len; (first | lia | omega)
  refine t_setdefault hgd₁ hd lo hsz (fun v hv => ?_) fun hv h₂ ob' s₂ g₂ d₂ => ?_
  · -- the item was met before
    have hp : n ∈ ps := Classical.byContradiction fun q => by rw [hf.no n q] at hv; cases hv
    obtain ⟨a, o, us, f1, f2, f3, f4⟩ := hf.there n hp
    rw [f1] at hv
    cases hv
    obtain ⟨j, hj⟩ := List.mem_iff_getElem?.mp f2
    have hjl : j < fam.length := by
      rcases Nat.lt_or_ge j fam.length with y | y
      · exact y
      · rw [List.getElem?_eq_none y] at hj; cases hj
    have H₁' := H₁.drop (l' := (dx, od) :: (d, ob) :: fam ++ E) (List.sublist_cons_self _ _) (by first | walk_at "mem" | simp)
    have hus : us.length ≤ sizeLine := by
      have e1 := f4.length
      have : ∀ (ps : List Int) (k : Int) (i : Nat), (places ps k i).length ≤ ps.length := by
        intro ps
        induction ps with
        | nil => intro k i; exact Nat.le_refl _
        | cons p r ih => intro k i; rw [places]; split <;> simp <;> exact Nat.le_trans (ih k (i + 1)) (by (first | lia | omega))
      have := this ps n 0
      rw [sizeLine_eq]; (first | lia | omega)
    refine rest (j + 2) (l := (dx, od) :: (d, ob) :: fam ++ E) (by simp [List.getElem?_append_left hjl, hj]) f3 hus H₁' _ fun h' o' hl' H' => ?_
    have : ((dx, od) :: (d, ob) :: fam ++ E).set (j + 2) (a, o') = (dx, od) :: (d, ob) :: fam.set j (a, o') ++ E := by
      simp [List.set_append_left _ _ hjl]
    rw [this] at H'
    exact ⟨_, ob, kvs, fam.set j (a, o'), (by intro y n1 n2 n3; simp [upd, n1, n2, n3]), hd, hf.old f1 hj f3 f4 hl' hp, H'⟩
  · -- the item is new
    have H₂ := H₁.upd (o' := ob') 2 (d := d) (o := ob) (by first | walk_at "mem" | simp) s₂ g₂
    have H₂' : S h₀ [dx] env.locals (upd (upd m (Str.ofString "i") (.int ps.length t)) (Str.ofString "elt") (.int n t')) ((a₀, o₀) :: (dx, od) :: (d, ob') :: (fam ++ E)) h₂ := by simpa using H₂
    refine rest 0 (l := (a₀, o₀) :: (dx, od) :: (d, ob') :: (fam ++ E)) rfl l₁ (by decide) H₂' _ fun h' o' hl' H' => ?_
    have ha : a₀ ∉ fam.map (·.1) := fun q => by
      have := H₂'.nodup
      rw [List.map_cons, List.nodup_cons] at this
      exact this.1 (by simp at q ⊢; exact .inr (.inr (.inl q)))
    have HP := H'.perm (l' := (dx, od) :: (d, ob') :: (a₀, o') :: (fam ++ E)) ((List.Perm.swap _ _ _).trans (List.Perm.cons _ (List.Perm.swap _ _ _)))
    exact ⟨_, ob', kvs ++ [(n, .ref a₀)], (a₀, o') :: fam, (by intro y n1 n2 n3; simp [upd, n1, n2, n3]), d₂, hf.new hv ha hl', HP⟩

structure B2J (prog : Program) (w : World) (h : Heap) (d : Addr) (ns : List Int) : Prop where
  ob : ∃ o kvs fam, h.get? d = some o ∧ IsDic prog w o kvs ∧ FamOk ns kvs fam ∧ ∀ p ∈ fam, h.get? p.1 = some p.2
  lo : (d == sysModules) = false

theorem chain_b {aj : Bool} {x dx ax : Addr} {od : Obj} {am : Str → Option Value} {vs : List Value} {ns : List Int} {hb : Heap} {Q : Value → Heap → Prop} (G : Gr (frag w.params) hb) (B : Sub [] hb h) (hn : hb.get? dx = none) (hh : A.handled = none) (hroom : A.depth < recursionLimit)
    (ho : h.get? x = some (instObj aSM dx)) (hdx : h.get? dx = some od) (ia : IsAttrs attrN od am) (hab : am (Str.ofString "b") = some (.ref ax)) (hj : am (Str.ofString "isjunk") = some .none) (haj : am (Str.ofString "autojunk") = some (.bool aj))
    (hl : h.IsList ax vs.toArray) (hi : IntsAre vs ns) (hz : ns.length < 100000)
    (q : ∀ h' od' d dj dp oj led, Sub [dx] h h' → h'.get? dx = some od' → IsAttrs attrN od' (upd (upd (upd am (Str.ofString "b2j") (.ref d)) (Str.ofString "bjunk") (.ref dj)) (Str.ofString "bpopular") (.ref dp)) → B2J prog w h' d ns → h'.get? dj = some oj → oj = { cls := .type "set", dict := none, data := .set #[] 0 (.fresh 0 0 led) } → Q .none h') (hsm : aj = true → ns.length < 200 := by intro z; cases z) :
    TC prog w A (.call (.ref at_SequenceMatcher_chain_b) ⟨[.ref x], []⟩) h Q := by
  refine TC.def (binds := [(Str.ofString "self", .ref x)]) [(dx, od)] (fn_chain_b w.params) (G.sub B) hroom (by kernel_rfl!) (by kernel_rfl!) (by simpa using hdx) (by first | walk_at "mem" | simp) fun h₁ L H => ?_
  have e := (fn_chain_b w.params).ok L
  have hm : bindM [(Str.ofString "self", .ref x)] (Str.ofString "self") = some (.ref x) := (upd_here : upd (fun _ => none) (Str.ofString "self") (.ref x) (Str.ofString "self") = _)
  generalize bindM [(Str.ofString "self", Value.ref x)] = m at *
  have hk : ∀ y ∈ [Str.ofString "self", Str.ofString "b", Str.ofString "b2j", Str.ofString "i", Str.ofString "elt", Str.ofString "indices", Str.ofString "junk", Str.ofString "isjunk", Str.ofString "popular", Str.ofString "n"], (callEnv fdOf_SequenceMatcher_chain_b L at_SequenceMatcher_chain_b).kindOf y = some .local := by
    have : ([Str.ofString "self", Str.ofString "b", Str.ofString "b2j", Str.ofString "i", Str.ofString "elt", Str.ofString "indices", Str.ofString "junk", Str.ofString "isjunk", Str.ofString "popular", Str.ofString "n"].all fun y => decide ((callEnv fdOf_SequenceMatcher_chain_b L at_SequenceMatcher_chain_b).kindOf y = some .local)) = true := by kernel_rfl!
    exact fun y hy => of_decide_eq_true (List.all_eq_true.mp this y hy)
  have hg1 : (callEnv fdOf_SequenceMatcher_chain_b L at_SequenceMatcher_chain_b).kindOf (Str.ofString "enumerate") = some .globalImplicit := by kernel_rfl!
  have hg2 : (callEnv fdOf_SequenceMatcher_chain_b L at_SequenceMatcher_chain_b).kindOf (Str.ofString "set") = some .globalImplicit := by kernel_rfl!
  have hg3 : (callEnv fdOf_SequenceMatcher_chain_b L at_SequenceMatcher_chain_b).kindOf (Str.ofString "len") = some .globalImplicit := by kernel_rfl!
  generalize henv : callEnv fdOf_SequenceMatcher_chain_b L at_SequenceMatcher_chain_b = env at *
  have hL : L = env.locals := by rw [← henv]; rfl
  subst hL
  clear henv
  have hh' : (A.deeper env).handled = none := hh
  generalize A.deeper env = A' at *
  have hxd : x ≠ dx := fun q => by
    obtain ⟨es, n, e1, _⟩ := ia
    rw [q, hdx, e1] at ho; cases ho
  have GG : ∀ {m l h₂}, S h [dx] env.locals m l h₂ → Gr (frag w.params) h₂ := fun H => G.sub fun b o _ eb => H.base b o (fun q => by
    obtain rfl : b = dx := by simpa using q
    rw [hn] at eb; cases eb) (B b o (by first | walk_at "mem" | simp) eb)
  have Hx : ∀ {m l h₂}, S h [dx] env.locals m l h₂ → h₂.get? x = some (instObj aSM dx) := fun H => H.old ho (by simpa using hxd)
  have hax : ax ≠ dx := fun q => by
    obtain ⟨es, n, e1, _⟩ := ia
    obtain ⟨ol, h1, h2, _⟩ := hl
    rw [q, hdx, e1] at h1; cases h1; simp at h2
  have Hl : ∀ {m l h₂}, S h [dx] env.locals m l h₂ → h₂.IsList ax vs.toArray := fun H => hl.at fun o eo => H.old eo (by simpa using hax)
  replace H : S h [dx] env.locals m [(dx, od)] h₁ := H
  have low : ∀ {m l h₂ a}, S h [dx] env.locals m l h₂ → h₂.get? a = none → (a == sysModules) = false := fun H ha => by
    have := (GG H).k sysModules (PySem.W.boot_o_1 w.params) (by kernel_rfl!)
    refine beq_eq_false_iff_ne.mpr fun q => ?_
    rw [q, this] at ha; cases ha
  have P := plainSM w.params
  refine T.execs_cons (T.Assign_Name (T.Attribute ?_))
  refine T.Name e H hm ?_ (hk _ (by first | walk_at "mem" | simp)) (by decide +kernel)
  refine T.getAttr P (GG H).k ⟨Hx H, H.get (by first | walk_at "mem" | simp)⟩ ia hab (attrFind _ (by delta attrN; walk_at "mem")) rfl ?_
  refine T.storeName e H (fun h₂ H₂ => ?_) (hk _ (by first | walk_at "mem" | simp))
  refine T.execs_cons (t_Assign2 (t_Dict0 fun d h₃ ob s₃ n₃ g₃ d₃ => t_assignAttr ?_))
  have lo := low H₂ n₃
  have H₃ := H₂.add s₃ n₃ g₃
  refine T.Name e H₃ (by walk_at "look") ?_ (hk _ (by first | walk_at "mem" | simp)) (by decide +kernel)
  refine T.setAttr P (GG H₃).k H₃ 1 rfl (Hx H₃) ia (attrTake _ (by delta attrN; walk_at "mem")) (fun h₄ od₄ H₄ _ ia₄ _ => ?_) (by delta attrN; walk_at "mem") (by decide)
  refine t_assignName e H₄ (fun h₅ H₅ => ?_) (hk _ (by first | walk_at "mem" | simp))
  replace H₅ : S h [dx] env.locals _ [(d, ob), (dx, od₄)] h₅ := H₅
  have H₅' := H₅.perm (List.Perm.swap (dx, od₄) (d, ob) [])
  refine T.execs_cons (T.For (T.Call_Name ?_))
  refine T.builtin (v := .type "enumerate") e (GG H₅) (by kernel_rfl!) (by kernel_rfl!) ?_ hg1 (by decide +kernel) (by decide +kernel)
  refine T.callWith ?_ rfl
  refine T.Name e H₅ (by walk_at "look") ?_ (hk _ (by first | walk_at "mem" | simp)) (by decide +kernel)
  refine ⟨Keeps.type, ?_⟩
  generalize hmm : upd (upd m (Str.ofString "b") (Value.ref ax)) (Str.ofString "b2j") (Value.ref d) = m₅ at *
  have hm5 : m₅ (Str.ofString "self") = some (.ref x) := by subst hmm; walk_at "look"
  have hm5b : m₅ (Str.ofString "b") = some (.ref ax) := by subst hmm; walk_at "look"
  have hm5d : m₅ (Str.ofString "b2j") = some (.ref d) := by subst hmm; walk_at "look"
  refine tf_enum (vs := vs) e hh' (hk _ (by first | walk_at "mem" | simp)) (hk _ (by first | walk_at "mem" | simp)) H₅' (fun i m l => ∃ ob kvs fam, l = (dx, od₄) :: (d, ob) :: fam ∧ IsDic prog w ob kvs ∧ FamOk (ns.take i) kvs fam ∧ ∀ y, y ≠ Str.ofString "i" → y ≠ Str.ofString "elt" → y ≠ Str.ofString "indices" → m y = m₅ y) ?_ ?_ ?_ ?_ ?_
  · rintro i m l ⟨ob, kvs, fam, rfl, _⟩ d hd
    simp at hd ⊢; exact .inl hd
  · rintro i m l h ⟨ob, kvs, fam, rfl, _⟩ H
    exact Hl H
  · exact ⟨ob, [], [], rfl, d₃, ⟨fun k hk => (by simp at hk), fun k _ => rfl, fun k k' a h => (by cases h), by simp⟩, fun y _ _ _ => rfl⟩
  · rintro i v t m l E h₆ hv ⟨ob, kvs, fam, rfl, hd, hf, hmy⟩ H₆
    have hi' : i < ns.length := by
      have := hi.length
      rcases Nat.lt_or_ge i vs.length with y | y
      · (first | lia | omega)
      · rw [List.getElem?_eq_none y] at hv; cases hv
    obtain ⟨t', hx'⟩ := hi.get i ns[i] (by simp [hi'])
    rw [hv] at hx'
    cases hx'
    have hlen : (ns.take i).length = i := by simp; (first | lia | omega)
    have hmd : m (Str.ofString "b2j") = some (.ref d) := by rw [hmy _ (by decide +kernel) (by decide +kernel) (by decide +kernel)]; exact hm5d
    refine (chain_turn (x := x) (px := []) (t := t) (t' := t') e (fun y hy => hk y (by simp at hy ⊢; rcases hy with h | h | h | h <;> simp [h])) hmd lo hd hf (by rw [hlen]; (first | lia | omega)) (by rw [hlen]; exact H₆)).mono fun f h₇ z => ?_
    cases f with
    | next =>
      obtain ⟨m₂, ob', kvs', fam', hy, hd', hf', H₇⟩ := z
      refine ⟨m₂, (dx, od₄) :: (d, ob') :: fam', ⟨ob', kvs', fam', rfl, hd', ?_, fun y n1 n2 n3 => (hy y n1 n2 n3).trans (hmy y n1 n2 n3)⟩, H₇⟩
      rw [List.take_add_one, List.getElem?_eq_getElem hi']
      exact hf'
    | brk => exact z.elim
    | cont => exact z.elim
    | ret v => exact z.elim
  · rintro m l h₆ ⟨ob, kvs, fam, rfl, hd, hf, hmy⟩ H₆
    rw [hi.length, List.take_length] at hf
    have ms : m (Str.ofString "self") = some (.ref x) := by rw [hmy _ (by decide +kernel) (by decide +kernel) (by decide +kernel)]; exact hm5
    have mb : m (Str.ofString "b") = some (.ref ax) := by rw [hmy _ (by decide +kernel) (by decide +kernel) (by decide +kernel)]; exact hm5b
    clear hmy
    refine T.execs_cons (t_Assign2 (T.Call_Name ?_))
    refine T.builtin (v := .type "set") e (GG H₆) (by kernel_rfl!) (by kernel_rfl!) ?_ hg2 (by decide +kernel) (by decide +kernel)
    refine T.callWith ?_ rfl
    refine ⟨Keeps.type, t_set0 fun dj h₇ led s₇ n₇ g₇ => t_assignAttr ?_⟩
    have H₇ := H₆.add s₇ n₇ g₇
    refine T.Name e H₇ (by walk_at "look") ?_ (hk _ (by first | walk_at "mem" | simp)) (by decide +kernel)
    refine T.setAttr P (GG H₇).k H₇ 1 rfl (Hx H₇) ia₄ (attrTake _ (by delta attrN; walk_at "mem")) (fun h₈ od₈ H₈ _ ia₈ _ => ?_) (by delta attrN; walk_at "mem") (by decide)
    refine t_assignName e H₈ (fun h₉ H₉ => ?_) (hk _ (by first | walk_at "mem" | simp))
    refine T.execs_cons (T.Assign_Name (T.Attribute ?_))
    refine T.Name e H₉ (by walk_at "look") ?_ (hk _ (by first | walk_at "mem" | simp)) (by decide +kernel)
    refine T.getAttr P (GG H₉).k ⟨Hx H₉, H₉.get (by first | walk_at "mem" | simp)⟩ ia₈ (v := .none) (by walk_at "look") (attrFind _ (by delta attrN; walk_at "mem")) rfl ?_
    refine T.storeName e H₉ (fun h₁₀ H₁₀ => ?_) (hk _ (by first | walk_at "mem" | simp))
    refine T.execs_cons (T.If (t_isTrue_plain ?_))
    refine T.Name e H₁₀ (by walk_at "look") ?_ (hk _ (by first | walk_at "mem" | simp)) (by decide +kernel)
    refine t_truthy_none ?_
    refine T.execs_nil ?_
    refine T.execs_cons (t_Assign2 (T.Call_Name ?_))
    refine T.builtin (v := .type "set") e (GG H₁₀) (by kernel_rfl!) (by kernel_rfl!) ?_ hg2 (by decide +kernel) (by decide +kernel)
    refine T.callWith ?_ rfl
    refine ⟨Keeps.type, t_set0 fun dp h₁₁ led' s₁₁ n₁₁ g₁₁ => t_assignAttr ?_⟩
    have H₁₁ := H₁₀.add s₁₁ n₁₁ g₁₁
    refine T.Name e H₁₁ (by walk_at "look") ?_ (hk _ (by first | walk_at "mem" | simp)) (by decide +kernel)
    refine T.setAttr P (GG H₁₁).k H₁₁ 2 rfl (Hx H₁₁) ia₈ (attrTake _ (by delta attrN; walk_at "mem")) (fun h₁₂ od₁₂ H₁₂ _ ia₁₂ _ => ?_) (by delta attrN; walk_at "mem") (by decide)
    refine t_assignName e H₁₂ (fun h₁₃ H₁₃ => ?_) (hk _ (by first | walk_at "mem" | simp))
    refine T.execs_cons (T.Assign_Name (T.Call_Name ?_))
    refine T.builtin (v := .builtin "len") e (GG H₁₃) (by kernel_rfl!) (by kernel_rfl!) ?_ hg3 (by decide +kernel) (by decide +kernel)
    refine T.callWith ?_ rfl
    refine T.Name e H₁₃ (by walk_at "look") ?_ (hk _ (by first | walk_at "mem" | simp)) (by decide +kernel)
    refine ⟨Keeps.builtin, t_len (Hl H₁₃) (by have := hi.length; (first | lia | omega)) fun t => ?_⟩
    refine T.storeName e H₁₃ (fun h₁₄ H₁₄ => ?_) (hk _ (by first | walk_at "mem" | simp))
    refine T.execs_cons (T.If (t_isTrue_and (t_isTrue_plain (T.Attribute ?_))))
    refine T.Name e H₁₄ (by walk_at "look") ?_ (hk _ (by first | walk_at "mem" | simp)) (by decide +kernel)
    refine T.getAttr P (GG H₁₄).k ⟨Hx H₁₄, H₁₄.get (by first | walk_at "mem" | simp)⟩ ia₁₂ (v := .bool aj) (by walk_at "look") (attrFind _ (by delta attrN; walk_at "mem")) rfl ?_
    refine T.truthy_bool ?_
    have fin : T prog w A' (execs [] env) h₁₄ fun f h' => match f with | .next => T prog w A' (execs [] env) h' (fun fl h' => Q (match fl with | .ret v => v | _ => .none) h') | f => Q (match f with | .ret v => v | _ => .none) h' := by
      refine T.execs_nil (T.execs_nil ?_)
      refine q h₁₄ od₁₂ d dj dp _ led H₁₄.base (H₁₄.get (by first | walk_at "mem" | simp)) ia₁₂ ⟨⟨ob, kvs, fam, H₁₄.get (by first | walk_at "mem" | simp), hd, hf, fun p hp => H₁₄.led p (by simp [hp])⟩, lo⟩ (H₁₄.get (o := { cls := .type "set", dict := none, data := .set #[] 0 (.fresh 0 0 led) }) (by first | walk_at "mem" | simp)) rfl
    cases aj with
    | false => exact fin
    | true =>
      have hs := hsm rfl
      have hvl := hi.length
      rw [if_pos rfl]
      refine t_isTrue_and (T.isTrue_Compare ?_)
      refine T.Name e H₁₄ (by walk_at "look") ?_ (hk _ (by first | walk_at "mem" | simp)) (by decide +kernel)
      refine T.cInt fun t2 => T.ge (T.truthy_bool ?_)
      rw [if_neg (by rw [decide_eq_true_eq]; (first | lia | omega)), if_neg (by first | walk_at "mem" | simp)]
      exact fin
end
end Mine

end
section
open PySem PySem.W PyProof.Rows PySem.Calls
set_option Elab.async false
set_option linter.unusedVariables false
namespace Mine
theorem valueAt_stored {kvs : List (Int × Value)} {k j : Int} {v : Value} : valueAt (stored kvs k v) j = if j = k then some v else valueAt kvs j := by
  unfold stored
  split
  · rename_i ha
    unfold valueAt
    rw [List.find?_map]
    have ep : ((fun kv : Int × Value => decide (kv.1 = j)) ∘ fun kv => if kv.1 = k then (kv.1, v) else kv) = fun kv => decide (kv.1 = j) := by
      funext kv; simp only [Function.comp]; split <;> rfl
    rw [ep]
    cases hf : kvs.find? (fun kv => decide (kv.1 = j)) with
    | none =>
      have : j ≠ k := fun q => by
        obtain ⟨x, hx, hk⟩ := List.any_eq_true.mp ha
        have := List.find?_eq_none.mp hf x hx
        rw [q] at this
        exact this hk
      simp [this]
    | some x =>
      have hx : x.1 = j := by simpa using List.find?_some hf
      by_cases e : j = k
      · simp [hx, e]
      · simp [hx, e]
  · rename_i ha
    refine valueAt_snoc ?_
    unfold valueAt
    cases hf : kvs.find? (fun kv => decide (kv.1 = k)) with
    | none => rfl
    | some x => exact absurd (List.any_eq_true.mpr ⟨x, List.mem_of_find?_eq_some hf, List.find?_some hf⟩) ha
end Mine

end
section
open PySem PySem.W PyProof.Rows PySem.Calls
set_option Elab.async false
set_option linter.unusedVariables false
set_option maxRecDepth 100000
set_option maxHeartbeats 4000000
namespace Mine

section
variable {prog : Program} {w : World} {A : Around} {h h' h₀ : Heap}
noncomputable def Differs (h : Heap) (u v : Value) : Prop := (plainIs u v = true ∧ u ≠ v) ∨ ∃ x y ox oy, u = .ref x ∧ v = .ref y ∧ x ≠ y ∧ h.get? x = some ox ∧ h.get? y = some oy ∧ ox.cls ≠ .type "tuple"
theorem t_is_no {u v : Value} {Q : Value → Heap → Prop} (hd : Differs h u v) (q : Q (.bool false) h) : T prog w A (compareOp .Is u v) h Q := fun s es => by
  subst es
  rcases hd with ⟨hp, hn⟩ | ⟨x, y, ox, oy, rfl, rfl, hn, hx, hy, hc⟩
  · exact wpAny_is_other hp hn ⟨_, s.toks, rfl, q⟩
  · exact wpAny_is_ref_other hn hx hy hc ⟨_, s.toks, rfl, q⟩
theorem Differs.sub {D : List Addr} {u v : Value} (hd : Differs h u v) (x : Sub D h h') (hu : ∀ a, u = .ref a → a ∉ D) (hv : ∀ a, v = .ref a → a ∉ D) : Differs h' u v := by
  rcases hd with hd | ⟨x', y, ox, oy, rfl, rfl, hn, hx, hy, hc⟩
  · exact .inl hd
  · exact .inr ⟨x', y, ox, oy, rfl, rfl, hn, x _ _ (hu _ rfl) hx, x _ _ (hv _ rfl) hy, hc⟩

theorem fn_set_seq1 (P : Params) : FnOk (frag P) at_SequenceMatcher_set_seq1 fdOf_SequenceMatcher_set_seq1 (bodyN (stN (bodyN (stN pwBody 5)) 3)) :=
  ⟨⟨obOf_SequenceMatcher_set_seq1 P, by kernel_rfl!, rfl⟩, by kernel_rfl!, by kernel_rfl!, by kernel_rfl!, by kernel_rfl!, by kernel_rfl!, by kernel_rfl!, by kernel_rfl!, by kernel_rfl!⟩
theorem fn_set_seq2 (P : Params) : FnOk (frag P) at_SequenceMatcher_set_seq2 fdOf_SequenceMatcher_set_seq2 (bodyN (stN (bodyN (stN pwBody 5)) 4)) :=
  ⟨⟨obOf_SequenceMatcher_set_seq2 P, by kernel_rfl!, rfl⟩, by kernel_rfl!, by kernel_rfl!, by kernel_rfl!, by kernel_rfl!, by kernel_rfl!, by kernel_rfl!, by kernel_rfl!, by kernel_rfl!⟩
theorem fn_set_seqs (P : Params) : FnOk (frag P) at_SequenceMatcher_set_seqs fdOf_SequenceMatcher_set_seqs (bodyN (stN (bodyN (stN pwBody 5)) 2)) :=
  ⟨⟨obOf_SequenceMatcher_set_seqs P, by kernel_rfl!, rfl⟩, by kernel_rfl!, by kernel_rfl!, by kernel_rfl!, by kernel_rfl!, by kernel_rfl!, by kernel_rfl!, by kernel_rfl!, by kernel_rfl!⟩
theorem fn_init (P : Params) : FnOk (frag P) at_SequenceMatcher_init fdOf_SequenceMatcher_init (bodyN (stN (bodyN (stN pwBody 5)) 1)) :=
  ⟨⟨obOf_SequenceMatcher_init P, by kernel_rfl!, rfl⟩, by kernel_rfl!, by kernel_rfl!, by kernel_rfl!, by kernel_rfl!, by kernel_rfl!, by kernel_rfl!, by kernel_rfl!, by kernel_rfl!⟩

theorem inst_ne {x dx : Addr} {od : Obj} {N : List Str} {am : Str → Option Value} (ho : h.get? x = some (instObj aSM dx)) (hdx : h.get? dx = some od) (ia : IsAttrs N od am) : x ≠ dx := fun q => by
  obtain ⟨es, n, e1, _⟩ := ia
  rw [q, hdx, e1] at ho; cases ho
theorem list_ne {x dx : Addr} {od : Obj} {N : List Str} {am : Str → Option Value} {vs : Array Value} (hl : h.IsList x vs) (hdx : h.get? dx = some od) (ia : IsAttrs N od am) : x ≠ dx := fun q => by
  obtain ⟨es, n, e1, _⟩ := ia
  obtain ⟨ol, h1, h2, _⟩ := hl
  rw [q, hdx, e1] at h1; cases h1; simp at h2
theorem gr_in {hb : Heap} {dx L : Addr} {m : Str → Option Value} {l : List (Addr × Obj)} {h₂ : Heap} {K : Frag} (G : Gr K hb) (B : Sub [] hb h) (hn : hb.get? dx = none) (H : S h [dx] L m l h₂) : Gr K h₂ := G.sub fun b o _ eb => H.base b o (fun q => by
    obtain rfl : b = dx := by simpa using q
    rw [hn] at eb; cases eb) (B b o (by first | walk_at "mem" | simp) eb)

theorem set_seq1 {x dx : Addr} {u v : Value} {od : Obj} {am : Str → Option Value} {hb : Heap} {Q : Value → Heap → Prop} (G : Gr (frag w.params) hb) (B : Sub [] hb h) (hn : hb.get? dx = none) (hroom : A.depth < recursionLimit)
    (ho : h.get? x = some (instObj aSM dx)) (hdx : h.get? dx = some od) (ia : IsAttrs attrN od am) (ha : am (Str.ofString "a") = some u) (hu : handedIn u = true) (hd : Differs h v u) (nv : v ≠ .ref dx) (nu : u ≠ .ref dx)
    (q : ∀ h' od', Sub [dx] h h' → h'.get? dx = some od' → IsAttrs attrN od' (upd (upd (upd am (Str.ofString "a") v) (Str.ofString "matching_blocks") .none) (Str.ofString "opcodes") .none) → Q .none h') :
    TC prog w A (.call (.ref at_SequenceMatcher_set_seq1) ⟨[.ref x, v], []⟩) h Q := by
  refine TC.def (binds := [(Str.ofString "self", .ref x), (Str.ofString "a", v)]) [(dx, od)] (fn_set_seq1 w.params) (G.sub B) hroom (by kernel_rfl!) (by kernel_rfl!) (by simpa using hdx) (by first | walk_at "mem" | simp) fun h₁ L H => ?_
  have e := (fn_set_seq1 w.params).ok L
  have k1 : (callEnv fdOf_SequenceMatcher_set_seq1 L at_SequenceMatcher_set_seq1).kindOf (Str.ofString "self") = some .local := by kernel_rfl!
  have k2 : (callEnv fdOf_SequenceMatcher_set_seq1 L at_SequenceMatcher_set_seq1).kindOf (Str.ofString "a") = some .local := by kernel_rfl!
  replace H : S h [dx] L (upd (upd (fun _ => none) (Str.ofString "self") (.ref x)) (Str.ofString "a") v) [(dx, od)] h₁ := H
  generalize henv : callEnv fdOf_SequenceMatcher_set_seq1 L at_SequenceMatcher_set_seq1 = env at *
  have hL : L = env.locals := by rw [← henv]; rfl
  subst hL
  clear henv
  generalize A.deeper env = A' at *
  have hxd := inst_ne ho hdx ia
  have GG : ∀ {m l h₂}, S h [dx] env.locals m l h₂ → Gr (frag w.params) h₂ := fun H => gr_in G B hn H
  have Hx : ∀ {m l h₂}, S h [dx] env.locals m l h₂ → h₂.get? x = some (instObj aSM dx) := fun H => H.old ho (by simpa using hxd)
  have P := plainSM w.params
  refine T.execs_cons (T.Expr (T.cStr fun t => ⟨(fun b q => by cases q), ?_⟩) e.inter)
  refine T.execs_cons (T.If (T.isTrue_Compare ?_))
  walk_at "nm"
  refine T.Attribute ?_
  walk_at "nm"
  refine T.getAttr P (GG H).k ⟨Hx H, H.get (by first | walk_at "mem" | simp)⟩ ia ha (attrFind _ (by delta attrN; walk_at "mem")) hu ?_
  refine t_is_no (hd.sub (D := [dx]) H.base (fun a q => by subst q; simpa using fun z => nv (by rw [z])) (fun a q => by subst q; simpa using fun z => nu (by rw [z]))) ?_
  refine T.truthy_bool ?_
  refine T.execs_nil ?_
  refine T.execs_cons (t_Assign_Attr ?_)
  walk_at "nm"
  walk_at "nm"
  refine T.setAttr P (GG H).k H 0 rfl (Hx H) ia (attrTake _ (by delta attrN; walk_at "mem")) (fun h₂ od₂ H₂ _ ia₂ _ => ?_) (by delta attrN; walk_at "mem") (by decide)
  refine T.execs_cons (t_Assign2 (T.cNone (t_assignAttr ?_)))
  walk_at "nm"
  refine T.setAttr P (GG H₂).k H₂ 0 rfl (Hx H₂) ia₂ (attrTake _ (by delta attrN; walk_at "mem")) (fun h₃ od₃ H₃ _ ia₃ _ => t_assignAttr ?_) (by delta attrN; walk_at "mem") (by decide)
  walk_at "nm"
  refine T.setAttr P (GG H₃).k H₃ 0 rfl (Hx H₃) ia₃ (attrTake _ (by delta attrN; walk_at "mem")) (fun h₄ od₄ H₄ _ ia₄ _ => ?_) (by delta attrN; walk_at "mem") (by decide)
  exact T.execs_nil (q h₄ od₄ H₄.base (H₄.get (by first | walk_at "mem" | simp)) ia₄)

noncomputable def am2 (am : Str → Option Value) (v : Value) (d dj dp : Addr) : Str → Option Value :=
  upd (upd (upd (upd (upd (upd (upd am (Str.ofString "b") v) (Str.ofString "matching_blocks") .none) (Str.ofString "opcodes") .none) (Str.ofString "fullbcount") .none) (Str.ofString "b2j") (.ref d)) (Str.ofString "bjunk") (.ref dj)) (Str.ofString "bpopular") (.ref dp)
noncomputable def emptySet (led : Bool) : Obj := { cls := .type "set", dict := none, data := .set #[] 0 (.fresh 0 0 led) }

theorem set_seq2 {aj : Bool} {x dx ax : Addr} {u : Value} {vs : List Value} {ns : List Int} {od : Obj} {am : Str → Option Value} {hb : Heap} {Q : Value → Heap → Prop} (G : Gr (frag w.params) hb) (B : Sub [] hb h) (hn : hb.get? dx = none) (hh : A.handled = none) (hroom : A.depth + 3 < recursionLimit)
    (ho : h.get? x = some (instObj aSM dx)) (hdx : h.get? dx = some od) (ia : IsAttrs attrN od am) (ha : am (Str.ofString "b") = some u) (hu : handedIn u = true) (hd : Differs h (.ref ax) u) (nu : u ≠ .ref dx)
    (hj : am (Str.ofString "isjunk") = some .none) (haj : am (Str.ofString "autojunk") = some (.bool aj)) (hmeth : am (Str.ofString "_SequenceMatcher__chain_b") = none)
    (hl : h.IsList ax vs.toArray) (hi : IntsAre vs ns) (hz : ns.length < 100000)
    (q : ∀ h' od' d dj dp led, Sub [dx] h h' → h'.get? dx = some od' → IsAttrs attrN od' (am2 am (.ref ax) d dj dp) → B2J prog w h' d ns → h'.get? dj = some (emptySet led) → Q .none h') (hsm : aj = true → ns.length < 200 := by intro z; cases z) :
    TC prog w A (.call (.ref at_SequenceMatcher_set_seq2) ⟨[.ref x, .ref ax], []⟩) h Q := by
  refine TC.def (binds := [(Str.ofString "self", .ref x), (Str.ofString "b", .ref ax)]) [(dx, od)] (fn_set_seq2 w.params) (G.sub B) (by (first | lia | omega)) (by kernel_rfl!) (by kernel_rfl!) (by simpa using hdx) (by first | walk_at "mem" | simp) fun h₁ L H => ?_
  have e := (fn_set_seq2 w.params).ok L
  have k1 : (callEnv fdOf_SequenceMatcher_set_seq2 L at_SequenceMatcher_set_seq2).kindOf (Str.ofString "self") = some .local := by kernel_rfl!
  have k2 : (callEnv fdOf_SequenceMatcher_set_seq2 L at_SequenceMatcher_set_seq2).kindOf (Str.ofString "b") = some .local := by kernel_rfl!
  replace H : S h [dx] L (upd (upd (fun _ => none) (Str.ofString "self") (.ref x)) (Str.ofString "b") (.ref ax)) [(dx, od)] h₁ := H
  generalize henv : callEnv fdOf_SequenceMatcher_set_seq2 L at_SequenceMatcher_set_seq2 = env at *
  have hL : L = env.locals := by rw [← henv]; rfl
  subst hL
  clear henv
  have hh' : (A.deeper env).handled = none := hh
  have hd' : (A.deeper env).depth + 2 < recursionLimit := by show A.depth + 1 + 2 < _; (first | lia | omega)
  generalize A.deeper env = A' at *
  have hxd := inst_ne ho hdx ia
  have had := list_ne hl hdx ia
  have GG : ∀ {m l h₂}, S h [dx] env.locals m l h₂ → Gr (frag w.params) h₂ := fun H => gr_in G B hn H
  have Hx : ∀ {m l h₂}, S h [dx] env.locals m l h₂ → h₂.get? x = some (instObj aSM dx) := fun H => H.old ho (by simpa using hxd)
  have P := plainSM w.params
  refine T.execs_cons (T.Expr (T.cStr fun t => ⟨(fun b q => by cases q), ?_⟩) e.inter)
  refine T.execs_cons (T.If (T.isTrue_Compare ?_))
  walk_at "nm"
  refine T.Attribute ?_
  walk_at "nm"
  refine T.getAttr P (GG H).k ⟨Hx H, H.get (by first | walk_at "mem" | simp)⟩ ia ha (attrFind _ (by delta attrN; walk_at "mem")) hu ?_
  refine t_is_no (hd.sub (D := [dx]) H.base (fun a q => by cases q; simpa using had) (fun a q => by subst q; simpa using fun z => nu (by rw [z]))) ?_
  refine T.truthy_bool ?_
  refine T.execs_nil ?_
  refine T.execs_cons (t_Assign_Attr ?_)
  walk_at "nm"
  walk_at "nm"
  refine T.setAttr P (GG H).k H 0 rfl (Hx H) ia (attrTake _ (by delta attrN; walk_at "mem")) (fun h₂ od₂ H₂ _ ia₂ _ => ?_) (by delta attrN; walk_at "mem") (by decide)
  refine T.execs_cons (t_Assign2 (T.cNone (t_assignAttr ?_)))
  walk_at "nm"
  refine T.setAttr P (GG H₂).k H₂ 0 rfl (Hx H₂) ia₂ (attrTake _ (by delta attrN; walk_at "mem")) (fun h₃ od₃ H₃ _ ia₃ _ => t_assignAttr ?_) (by delta attrN; walk_at "mem") (by decide)
  walk_at "nm"
  refine T.setAttr P (GG H₃).k H₃ 0 rfl (Hx H₃) ia₃ (attrTake _ (by delta attrN; walk_at "mem")) (fun h₄ od₄ H₄ _ ia₄ _ => ?_) (by delta attrN; walk_at "mem") (by decide)
  refine T.execs_cons (t_Assign_Attr (T.cNone ?_))
  walk_at "nm"
  refine T.setAttr P (GG H₄).k H₄ 0 rfl (Hx H₄) ia₄ (attrTake _ (by delta attrN; walk_at "mem")) (fun h₅ od₅ H₅ _ ia₅ _ => ?_) (by delta attrN; walk_at "mem") (by decide)
  refine T.execs_cons (T.Expr (T.Call_method ?_) e.inter)
  walk_at "nm"
  refine T.getMeth (f := at_SequenceMatcher_chain_b) P (GG H₅).k ⟨Hx H₅, H₅.get (by first | walk_at "mem" | simp)⟩ ia₅ (by walk_at "look") (by kernel_rfl!) (by kernel_rfl!) ?_
  refine T.callWith ⟨Keeps.frag (GG H₅).k (by kernel_rfl!), T.call ?_⟩ rfl
  have B₅ : Sub [] hb h₅ := fun b o _ eb => H₅.base b o (fun q => by
    obtain rfl : b = dx := by simpa using q
    rw [hn] at eb; cases eb) (B b o (by first | walk_at "mem" | simp) eb)
  refine chain_b (hsm := hsm) G B₅ hn hh' (by (first | lia | omega)) (Hx H₅) (H₅.get (by first | walk_at "mem" | simp)) ia₅ (by walk_at "look") (by walk_at "look") (by walk_at "look") (hl.at fun o eo => H₅.old eo (by simpa using had)) hi hz fun h₆ od₆ d dj dp oj led s₆ g₆ ia₆ b₆ gj ej => ⟨(fun b q => by cases q), ?_⟩
  refine T.execs_nil (q h₆ od₆ d dj dp led (H₅.base.trans s₆) g₆ ia₆ b₆ (by rw [gj, ej]; rfl))

end
end Mine

end
section
open PySem PySem.W PyProof.Rows PySem.Calls
set_option Elab.async false
set_option linter.unusedVariables false
set_option maxRecDepth 100000
set_option maxHeartbeats 4000000
namespace Mine
section
variable {prog : Program} {w : World} {A : Around} {h h' h₀ : Heap}
noncomputable def am0 (ax bx d dj dp : Addr) : Str → Option Value :=
  am2 (upd (upd (upd (upd (upd (upd (upd (fun _ => none) (Str.ofString "isjunk") .none) (Str.ofString "a") .none) (Str.ofString "b") .none) (Str.ofString "autojunk") (.bool false)) (Str.ofString "a") (.ref ax)) (Str.ofString "matching_blocks") .none) (Str.ofString "opcodes") .none) (.ref bx) d dj dp

end
end Mine

end
section
open PySem PySem.W PyProof.Rows PySem.Calls
set_option Elab.async false
set_option linter.unusedVariables false
set_option maxRecDepth 100000
set_option maxHeartbeats 4000000
namespace Mine
noncomputable def bnd (id : String) (v : Value) : Obj := { cls := .type "builtin_function_or_method", data := .fields #[.builtin id, v] }
theorem slot_md_get : Slot "method_descriptor" "__get__" "method_descriptor.__get__" :=
  .of (owner := "method_descriptor") (n := "__get__") (by rw [typeLookup_type, builtinLookup_eq_fast]; kernel_rfl) (by decide +kernel) (by decide +kernel) (by decide +kernel)
    (by first | exact .inl (by decide +kernel) | exact .inr (by decide +kernel)) (by rw [isSubtype_type]; kernel_rfl)
theorem entry_md_get : entryFor table "method_descriptor.__get__" = some Builtin.«method_descriptor.__get__» := entryFor_of_tree (by kernel_rfl)
theorem args_md_get (a b c : Value) : argsOk "method_descriptor.__get__" ⟨[a, b, c], []⟩ := by unfold argsOk; kernel_rfl
section
variable {prog : Program} {w : World} {M : Model} {A : Around} {E : Value → Shared → Prop} {s : Shared} {h h' h₀ : Heap}
noncomputable def GetsBound (id T' : String) : Prop := ∀ {M : Model} {A : Around} {E : Value → Shared → Prop} {s : Shared} {a : Addr} {P : Fin → Shared → Prop}, s.TypeIs (.ref a) T' → P (.done (.ret (.ref s.heap.objs.size))) { s with heap := s.heap.push (bnd id (.ref a)) } →
    wpAny M A (Builtin.«method_descriptor.__get__» ⟨[.builtin id, .ref a, .type T'], []⟩) P E s
theorem sub_dict : isSubtype (.type "dict") (.type "dict") = pure true := by rw [isSubtype_type]; kernel_rfl
theorem noset_md : typeLookup (.type "method_descriptor") "__set__" = pure none := by rw [typeLookup_type, builtinLookup_eq_fast]; kernel_rfl
theorem nodel_md : typeLookup (.type "method_descriptor") "__delete__" = pure none := by rw [typeLookup_type, builtinLookup_eq_fast]; kernel_rfl
noncomputable def dictAt (c : Data) (a : Addr) : Sem (Option Addr) := match c with | .cls c => pure (some c.ns) | _ => instanceDict a false
theorem notCls {c : Data} {a : Addr} (hc : ∀ k, c ≠ .cls k) : dictAt c a = instanceDict a false := by
  cases c <;> first | rfl | exact absurd rfl (hc _)
theorem meets_bound {id T' : String} {name : Str} (a : Addr) (c : Data) (sl : Array (Option Value)) (u : Tok) (hG : GetsBound id T')
    (hl : typeLookup (.type T') name = pure (some (.builtin id))) (hty : typeOf (.builtin id) = pure (.type "method_descriptor")) (hname : (["__module__", "__name__", "__qualname__", "__doc__", "__annotations__"] : List Str).contains name = false) (hc : ∀ k, c ≠ .cls k) :
    Meets (Builtin.«object.__getattribute__» ⟨[.ref a, .str name u], []⟩) (fun A R s => s.heap.get? a = some { cls := .type T', dict := none, data := c, slots := sl } ∧ R (.ok (.ret (.ref s.heap.objs.size))) { s with heap := s.heap.push (bnd id (.ref a)) }) :=
  Meets.of_wp fun prog w A R s hs => by
    obtain ⟨hp, g, d, tk, os⟩ := s
    obtain ⟨hx, hs⟩ := hs
    have hT : (⟨hp, g, d, tk, os⟩ : Shared).TypeIs (.ref a) T' := ⟨_, hx, rfl⟩
    have f1 := slot_md_get.lookup
    have f2 := noset_md
    have f3 := nodel_md
    unfold Builtin.«object.__getattribute__»
    repeat (any_goals (first | assumption | wp_step))
    show wpAny _ _ (dictAt c a) _ _ _
    rw [notCls hc]
    repeat (any_goals (first | assumption | wp_step))
    simp only [hname, Bool.false_eq_true, if_false]
    repeat (any_goals (first | assumption | wp_step))
    refine codeAny_call_builtin slot_md_get.plain entry_md_get (slot_md_get.check _ _ _ _ _ _ _ _ hty (args_md_get _ _ _) (hG ⟨_, hx, rfl⟩ ?_))
    exact wpAny_pure ⟨_, rfl, hs⟩

theorem call_bound {id : String} {u : Addr} {self : Value} {rest : List Value} {B : Builtin} {S : PySem.Spec} {Q : Value → Shared → Prop} (hu : s.heap.get? u = some (bnd id self))
    (hchk : ∀ (E' : Value → Shared → Prop) (Q' : Unit → Shared → Prop), Q' () s → wpAny (model prog w) A.in1 (checkBoundCall id ⟨self :: rest, []⟩) Q' E' s) (plain : plainId id = true) (entry : entryFor table id = some B) (g : MeetsIn prog w (B ⟨self :: rest, []⟩) S) (hS : S A (wants Q E) s) :
    wpAny (model prog w) A (call (.ref u) rest) Q E s := by
  refine wpAny_call (codeAny_of_tree ?_)
  show wpAny _ A.in1 (callAny (.ref u) ⟨rest, []⟩) _ _ s
  unfold callAny
  refine wpAny_bind (wpAny_load hu ?_)
  show wpAny _ A.in1 (do checkBoundCall id ⟨self :: rest, []⟩; again (.builtin id ⟨self :: rest, []⟩)) _ _ s
  refine wpAny_bind (hchk _ _ ?_)
  refine wpAny_pure (And.intro (plainId_quiet plain _) (codeAny_builtin entry ?_))
  rw [Around.under_plainId plain]
  exact g A (wants Q E) s hS
end
end Mine

end
section
open PySem PySem.W PyProof.Rows PySem.Calls
set_option Elab.async false
set_option linter.unusedVariables false
set_option maxRecDepth 100000
set_option maxHeartbeats 4000000
namespace Mine
section
variable {prog : Program} {w : World} {M : Model} {A : Around} {E : Value → Shared → Prop} {s : Shared} {h h' h₀ : Heap}
theorem sub_mod_dict : isSubtype (.type "dict") (.type "module") = pure false := by rw [isSubtype_type]; kernel_rfl
noncomputable def isCls : Data → Bool
  | .cls _ => true
  | _ => false
theorem check_bound {id T' : String} {a : Addr} {o : Obj} {rest : List Value} {Q' : Unit → Shared → Prop} (hs : (Manifest.signature? id).map (fun sig => Bind.checkArgs id { sig with full := s!"{Bind.lastOf T'}.{Bind.lastOf id}" } ⟨.ref a :: rest, []⟩) = some (Pure.pure ())) (hk : builtinKind id = some .method)
    (hv : Manifest.varargsMethods.contains id = false) (hm : isSubtype (.type T') (.type "module") = pure false) (ho : s.heap.get? a = some o) (hc : o.cls = .type T') (hd : isCls o.data = false) (q : Q' () s) : wpAny M A (checkBoundCall id ⟨.ref a :: rest, []⟩) Q' E s := by
  unfold checkBoundCall
  cases e : Manifest.signature? id with
  | none => rw [e] at hs; cases hs
  | some sig =>
    rw [e] at hs
    dsimp only
    rw [hk]
    dsimp only
    rw [if_neg (by decide)]
    refine wpAny_bind (wpAny_isInstance (b := false) ⟨o, ho, hc⟩ hm ?_)
    rw [hv, if_neg (by decide)]
    refine wpAny_bind (m := isType (.ref a)) ?_
    unfold isType
    refine wpAny_bind (wpAny_load ho ?_)
    show wpAny M A (Pure.pure (isCls o.data)) _ _ _
    rw [hd]
    refine wpAny_pure ?_
    rw [if_neg Bool.false_ne_true]
    refine wpAny_bind (wpAny_typeOf (T := T') ⟨o, ho, hc⟩ ?_)
    dsimp only
    have e2 := Option.some.inj hs
    refine wpAny_of_eq e2 ?_
    exact q

theorem isCls_dic {o : Obj} {kvs : List (Int × Value)} (x : IsDic prog w o kvs) : isCls o.data = false := by
  obtain ⟨_, _, _, e, _⟩ := x
  rw [e]; rfl
end
end Mine

end
section
open PySem PySem.W PyProof.Rows PySem.Calls
set_option Elab.async false
set_option linter.unusedVariables false
set_option maxRecDepth 100000
set_option maxHeartbeats 4000000
namespace Mine
section
variable {prog : Program} {w : World} {A : Around} {h h' h₀ : Heap}
end
end Mine

end
section
open PySem PySem.W PyProof.Rows PySem.Calls
set_option Elab.async false
set_option linter.unusedVariables false
set_option maxRecDepth 100000
set_option maxHeartbeats 4000000
namespace Mine
structure Loc (env : Env) (xs : List Str) : Prop where
  h : ∀ y ∈ xs, env.kindOf y = some .local
theorem Loc.of {env : Env} {xs : List Str} {y : Str} (L : Loc env xs) (hy : y ∈ xs) : env.kindOf y = some .local := L.h y hy
theorem Loc.subs {env : Env} {xs ys : List Str} (L : Loc env xs) (h : (ys.all fun y => xs.contains y) = true) : ∀ y ∈ ys, env.kindOf y = some .local := fun y hy => L.h y (by simpa using List.all_eq_true.mp h y hy)
theorem Loc.mk' {env : Env} {xs : List Str} (h : (xs.all fun y => decide (env.kindOf y = some .local)) = true) : Loc env xs := ⟨fun y hy => of_decide_eq_true (List.all_eq_true.mp h y hy)⟩
local macro_rules | `(tactic| walk_at "nm") => `(tactic| refine T.Name (by assumption) (by assumption) (by walk_at "look") ?_ (Loc.of (by assumption) (by first | walk_at "mem" | simp)) (by decide +kernel))
noncomputable def forBody : Stmt → List Stmt
  | .For _ _ b _ _ => b
  | _ => []
section
variable {prog : Program} {w : World} {A : Around} {h h' h₀ : Heap} {env : Env} {m : Str → Option Value}

theorem sw_of {fd : FuncData} {ts : List PySem.Expr} {v : PySem.Expr} {r : Sem (Option (List Str))} (hsc : env.scope = fd.scope) (h : swappedStores ts v (callEnv fd 0 0) = r) : swappedStores ts v env = r := (sw_scope (env' := callEnv fd 0 0) hsc).trans h
end
end Mine

end
local macro_rules | `(tactic| walk_at "nm") => `(tactic| refine Mine.T.Name (by assumption) (by assumption) (by walk_at "look") ?_ (Mine.Loc.of (by assumption) (by first | walk_at "mem" | simp)) (by decide +kernel))
section
open PySem PySem.W PyProof.Rows PySem.Calls
set_option Elab.async false
set_option linter.unusedVariables false
namespace Mine
section
variable {ns ms : List Int} {alo blo bhi i idx jn : Nat} {k : Int} {kvs : List (Int × Value)} {bi bj bk : Nat}
end
end Mine

end
section
open PySem PySem.W PyProof.Rows PySem.Calls
set_option Elab.async false
set_option linter.unusedVariables false
set_option maxRecDepth 100000
set_option maxHeartbeats 4000000
namespace Mine
section
variable {prog : Program} {w : World} {A : Around} {h h' h₀ : Heap} {env : Env} {D : List Addr} {m : Str → Option Value} {l : List (Addr × Obj)}
end
end Mine

end
section
open PySem PySem.W PyProof.Rows PySem.Calls
set_option Elab.async false
set_option linter.unusedVariables false
set_option maxRecDepth 100000
set_option maxHeartbeats 4000000
namespace Mine
section
variable {prog : Program} {w : World} {A : Around} {h h' h₀ : Heap} {env : Env} {D : List Addr} {m : Str → Option Value} {l : List (Addr × Obj)}
end
end Mine

end
section
open PySem PySem.W PyProof.Rows PySem.Calls
set_option Elab.async false
set_option linter.unusedVariables false
set_option maxRecDepth 100000
set_option maxHeartbeats 4000000
namespace Mine
section
variable {prog : Program} {w : World} {A : Around} {h h' h₀ : Heap} {env : Env} {D : List Addr} {m : Str → Option Value} {l : List (Addr × Obj)}
end
end Mine

end
section
set_option linter.unusedVariables false
namespace Mine
section
variable {a b : List Int} {alo ahi blo bhi i j k : Nat}
end
end Mine

end
section
open PySem PySem.W PyProof.Rows PySem.Calls
set_option Elab.async false
set_option linter.unusedVariables false
set_option maxRecDepth 100000
set_option maxHeartbeats 4000000
namespace Mine
section
variable {prog : Program} {w : World} {A : Around} {h h' h₀ : Heap} {env : Env} {m : Str → Option Value} {fam fam' : List (Addr × Obj)} {vs : List Value} {rs : List Reg} {bs : List (Nat × Nat × Nat)}
end
end Mine

end
section
open PySem PySem.W PyProof.Rows PySem.Calls
set_option Elab.async false
set_option linter.unusedVariables false
set_option maxRecDepth 100000
set_option maxHeartbeats 4000000
namespace Mine
section
variable {prog : Program} {w : World} {A : Around} {E : Value → Shared → Prop} {s : Shared} {h h' h₀ : Heap}
end
end Mine

end
section
open PySem PySem.W PyProof.Rows PySem.Calls
set_option Elab.async false
set_option linter.unusedVariables false
set_option maxRecDepth 100000
set_option maxHeartbeats 4000000
namespace Mine
section
variable {prog : Program} {w : World} {A : Around} {E : Value → Shared → Prop} {s : Shared} {h h' h₀ : Heap}
end
end Mine

end
section
open PySem PySem.W PyProof.Rows PySem.Calls
set_option Elab.async false
set_option linter.unusedVariables false
set_option maxRecDepth 100000
set_option maxHeartbeats 4000000
namespace Mine
section
variable {prog : Program} {w : World} {A : Around} {h h' h₀ : Heap}
end
end Mine

end
section
open PySem PySem.W PyProof.Rows PySem.Calls
set_option Elab.async false
set_option linter.unusedVariables false
set_option maxRecDepth 100000
set_option maxHeartbeats 4000000
namespace Mine
section
variable {prog : Program} {w : World} {A : Around} {h h' h₀ : Heap} {env : Env} {D : List Addr} {m : Str → Option Value} {l : List (Addr × Obj)}
variable {fam fam' : List (Addr × Obj)} {vs : List Value} {bs : List (Nat × Nat × Nat)}
end
end Mine

end
section
open PySem PySem.W PyProof.Rows PySem.Calls
set_option Elab.async false
set_option linter.unusedVariables false
set_option maxRecDepth 100000
set_option maxHeartbeats 4000000
namespace Mine
section
variable {prog : Program} {w : World} {A : Around} {h h' h₀ h₁ : Heap} {env cenv : Env} {D : List Addr} {m : Str → Option Value} {l lo : List (Addr × Obj)}
noncomputable def compTests (env : Env) (ifs : List PySem.Expr) : Sem Bool := forIn ifs true fun c r => if r = true then do let ok ← isTrue c env (eval c env); pure (ForInStep.yield ok) else pure (ForInStep.yield r)
structure Iter (prog : Program) (w : World) (A : Around) (I : Addr) (hb : Heap) (n : Nat) (P : Nat → Value → Prop) (St : Nat → Obj → Prop) (target : PySem.Expr) : Prop where
  item : ∀ i h o, i < n → Sub [] hb h → h.get? I = some o → St i o → T prog w A (pyNext (.ref I)) h fun r h' => ∃ v o', r = some v ∧ P i v ∧ Sub [I] h h' ∧ h'.get? I = some o' ∧ St (i + 1) o'
  done : ∀ h o, Sub [] hb h → h.get? I = some o → St n o → T prog w A (pyNext (.ref I)) h fun r h' => r = none ∧ Sub [I] h h'
  go : ∀ i v h o, P i v → h.get? I = some o → St (i + 1) o → T prog w A (letOwnedTupleGo target (.ref I) v) h fun _ h' => h' = h
  self : ∀ h o, Sub [] hb h → h.get? I = some o → St 0 o → T prog w A (pyIter (.ref I)) h fun r h' => r = .ref I ∧ h' = h
theorem cenv_ok {scope : Scope} {cl : List (Str × Addr)} {C : Addr} (e : EnvOk env) (hk : scope.kind = .function) : EnvOk (compEnvC scope cl C env) := ⟨hk, e.glob, e.blt, by unfold interactive; simp [compEnvC, relabel, hk]⟩
theorem relabel_of {env' : Env} {scope : Scope} (hs : env.scope = env'.scope) : relabel scope env = relabel scope env' := by
  have h2 : ∀ x, env.kindOf x = env'.kindOf x := fun x => by unfold Env.kindOf; rw [hs]
  unfold relabel
  simp only [hs, h2]
theorem comp_looks {scope : Scope} (hcell : (scope.names.all fun y => y.2 != .cell) = true) (hnames : (scope.names.all fun y => y.2 != .local || decide (scope.names.lookup y.1 = some .local)) = true) :
    (∀ y ∈ scope.names, y.2 ≠ .cell) ∧ ∀ y ∈ scope.names, y.2 = .local → scope.names.lookup y.1 = some .local :=
  ⟨fun y hy => by simpa using List.all_eq_true.mp hcell y hy, fun y hy hl => by
    have := List.all_eq_true.mp hnames y hy
    simpa [hl] using this⟩
end
end Mine

end
section
open PySem PySem.W PyProof.Rows PySem.Calls
set_option Elab.async false
set_option linter.unusedVariables false
set_option maxRecDepth 100000
set_option maxHeartbeats 4000000
namespace Mine
section
variable {prog : Program} {w : World} {A : Around} {h h' h₀ h₁ : Heap} {env cenv : Env} {D : List Addr} {m : Str → Option Value} {l lo : List (Addr × Obj)} {K : Frag}
noncomputable def litS (ax : Addr) (i : Nat) (o : Obj) : Prop := o.cls = .type "list_iterator" ∧ o.data = .fields #[.ref ax, .int i 0]
theorem Iter.list {I ax : Addr} {hb : Heap} {vs : List Value} {target : PySem.Expr} (hh : A.handled = none) (hl : hb.IsList ax vs.toArray)
    (go : ∀ i v h o, vs[i]? = some v → h.get? I = some o → litS ax (i + 1) o → T prog w A (letOwnedTupleGo target (.ref I) v) h fun _ h' => h' = h) : Iter prog w A I hb vs.length (fun i v => vs[i]? = some v) (litS ax) target where
  item := fun i h o hi sb g st s es => by
    subst es
    have hit : s.heap.IsListIter I ax i := ⟨o, g, st.1, st.2⟩
    refine wpAny_pyNext_list_item hit (hl.at fun o eo => sb _ _ (by first | walk_at "mem" | simp) eo) (x := vs[i]) (by simp [hi]) fun h' hit' hs' => ?_
    obtain ⟨o', g', c', d'⟩ := hit'
    exact ⟨h', s.toks, rfl, vs[i], o', rfl, by simp [hi], Sub.same hs', g', c', d'⟩
  done := fun h o sb g st s es => by
    subst es
    have hit : s.heap.IsListIter I ax vs.length := ⟨o, g, st.1, st.2⟩
    exact wpAny_pyNext_list_end hh hit (hl.at fun o eo => sb _ _ (by first | walk_at "mem" | simp) eo) (by first | walk_at "mem" | simp) fun h' he => ⟨h', s.toks, rfl, rfl, Sub.ext he⟩
  go := go
  self := fun h o sb g st s es => by
    subst es
    have hit : s.heap.IsListIter I ax 0 := ⟨o, g, st.1, st.2⟩
    exact wpAny_pyIter_listiter hit ⟨s.heap, s.toks, rfl, rfl, rfl⟩
noncomputable def ritO (a b : Int) (i : Nat) : Obj := { cls := .type "range_iterator", dict := none, data := .fields #[rawInt (a + (i : Int)), rawInt (b - a - (i : Int)), rawInt 1], slots := #[] }
theorem Iter.range {I : Addr} {hb : Heap} {a b : Int} {x : Str} {px : Pos} (hh : A.handled = none) (hab : a ≤ b) : Iter prog w A I hb (b - a).toNat (fun i v => ∃ t, v = .int (a + (i : Int)) t) (fun i o => o = ritO a b i) (.Name x px) where
  item := fun i h o hi sb g st s es => by
    subst es st
    have hit : IsRangeIter s.heap I (a + (i : Int)) (b - a - (i : Int)) 1 := g
    refine wpAny_pyNext_range_item hit (by (first | lia | omega)) fun h' hit' hs' => ⟨h', _, rfl, _, _, rfl, ⟨_, rfl⟩, Sub.same hs', hit', ?_⟩
    have e1 : a + ((i + 1 : Nat) : Int) = a + (i : Int) + 1 := by (first | lia | omega)
    have e2 : b - a - ((i + 1 : Nat) : Int) = b - a - (i : Int) - 1 := by (first | lia | omega)
    rw [ritO, e1, e2]
  done := fun h o sb g st s es => by
    subst es st
    have hit : IsRangeIter s.heap I (a + (((b - a).toNat : Nat) : Int)) (b - a - (((b - a).toNat : Nat) : Int)) 1 := g
    exact wpAny_pyNext_range_end hh hit (by (first | lia | omega)) fun h' he => ⟨h', s.toks, rfl, rfl, Sub.ext he⟩
  go := fun _ _ _ _ _ _ _ => T.eq rfl (T.pure rfl)
  self := fun h o sb g st s es => by
    subst es st
    refine (Walks.range (prog := prog) (w := w) hh I a 1 (b - a).toNat).self 0 s _ _ ?_ ⟨s.heap, s.toks, rfl, rfl, rfl⟩
    show s.heap.get? I = _
    rw [g]
    have e2 : ((b - a).toNat : Int) - ((0 : Nat) : Int) = b - a - ((0 : Nat) : Int) := by (first | lia | omega)
    have e1 : a + ((0 : Nat) : Int) * 1 = a + ((0 : Nat) : Int) := by (first | lia | omega)
    rw [ritO, e1, e2]
noncomputable def IsCel (o : Obj) (v : Option Value) : Prop := o.data = .cell v
theorem t_loadCell {x : Str} {c : Addr} {o : Obj} {v : Value} {Q : Value → Heap → Prop} (e : EnvOk env) (hk : env.kindOf x = some .cell) (hc : env.cells.lookup x = some c) (ho : h.get? c = some o) (hv : IsCel o (some v)) (q : Q v h) : T prog w A (loadName env x) h Q := fun s es => by
  subst es
  exact wpAny_loadName_cell e.kind hk hc ⟨o, ho, hv⟩ ⟨s.heap, s.toks, rfl, q⟩
theorem t_NameC {x : Str} {pos : Pos} {c : Addr} {o : Obj} {v : Value} {Q : Value → Heap → Prop} (e : EnvOk env) (hk : env.kindOf x = some .cell) (hc : env.cells.lookup x = some c) (ho : h.get? c = some o) (hv : IsCel o (some v)) (q : Q v h) (hd : (x == ("__debug__" : Str)) = false) : T prog w A (eval (.Name x pos) env) h Q :=
  fun s es => wpAny_Name (t_loadCell e hk hc ho hv q s es) hd
theorem t_storeCell {x : Str} {c : Addr} {o : Obj} {v₀ : Option Value} {v : Value} {Q : Unit → Heap → Prop} (e : EnvOk env) (hk : env.kindOf x = some .cell) (hc : env.cells.lookup x = some c) (ho : h.get? c = some o) (hv : IsCel o v₀) (q : ∀ h' o', Sub [c] h h' → h'.get? c = some o' → IsCel o' (some v) → Q () h') : T prog w A (storeName env x v) h Q := fun s es => by
  subst es
  refine wpAny_storeName_cell e.kind hk hc ⟨o, ho, hv⟩ fun h' hc' hs' => ?_
  obtain ⟨o', g', d'⟩ := hc'
  exact ⟨h', s.toks, rfl, q h' o' (Sub.same hs') g' d'⟩
structure FnOkC (K : Frag) (f : Addr) (fd : FuncData) (body : List Stmt) : Prop where
  lk : ∃ o, K.lookup f = some o ∧ o.data = .func fd
  cd : codeIn K fd.code fd.qualname = true
  body : fd.body = .stmts body
  clo : fd.closure = []
  co : fd.scope.isCoroutine = false
  gen : fd.scope.isGenerator = false
  kind : fd.scope.kind = .function
  glob : fd.globals = mainGlobals
  blt : fd.builtins = builtinsNs
theorem FnOkC.ok {f : Addr} {fd : FuncData} {body : List Stmt} (F : FnOkC K f fd body) (L : Addr) : EnvOk (callEnvC fd L f) := ⟨F.kind, F.glob, F.blt, by
  unfold interactive; simp [callEnvC, newEnv, F.kind]⟩
end
end Mine

end
section
open PySem PySem.W PyProof.Rows PySem.Calls PySem.SeqAt
set_option Elab.async false
set_option linter.unusedVariables false
set_option maxRecDepth 100000
set_option maxHeartbeats 4000000
namespace Mine
section
variable {prog : Program} {w : World} {A : Around} {h h' h₀ h₁ : Heap} {env cenv : Env} {D : List Addr} {m : Str → Option Value} {l lo : List (Addr × Obj)} {K : Frag}
theorem pick_clip (items : Array Value) (lo : Option Int) (b : Nat) : slicePick items lo (some (b : Int)) none = slicePick items lo (some ((min b items.size : Nat) : Int)) none := by
  have e : sliceBounds lo (some (b : Int)) none items.size = sliceBounds lo (some ((min b items.size : Nat) : Int)) none items.size := by
    simp only [sliceBounds, Option.getD_none]
    have h1 : ¬ ((b : Int) < 0) := by (first | lia | omega)
    have h2 : ¬ (((min b items.size : Nat) : Int) < 0) := by (first | lia | omega)
    simp only [h1, h2, if_false, show (1 : Int) > 0 by decide, if_true]
    congr 2
    (first | lia | omega)
  unfold slicePick
  rw [e]
theorem pick_run' (vs : List Value) (a b : Nat) (ha : a ≤ vs.length) (hab : a ≤ b) : (slicePick vs.toArray (some (a : Int)) (some (b : Int)) none).toList = (vs.drop a).take (b - a) := by
  rw [pick_clip, slicePick_run _ _ _ (by (first | lia | omega)) (by simp; (first | lia | omega))]
  simp only [List.size_toArray]
  rcases Nat.le_total b vs.length with c | c
  · rw [Nat.min_eq_left c]
  · rw [Nat.min_eq_right c, List.take_of_length_le (by first | walk_at "mem" | simp), List.take_of_length_le (by simp; (first | lia | omega))]
theorem t_part0 {Q : Value → Heap → Prop} (q : Q .none h) : T prog w A (evalPart none env) h Q := fun s es => wpAny_pure ⟨s.heap, s.toks, rfl, es ▸ q⟩
theorem t_addLists {a b : Addr} {vs ws : List Value} {Q : Value → Heap → Prop} (hl : h.IsList a vs.toArray) (hb : h.IsList b ws.toArray) (hsz : vs.length + ws.length ≤ sizeLine)
    (q : ∀ r h' ob, Sub [] h h' → h.get? r = none → h'.get? r = some ob → IsLst ob (vs ++ ws) → Q (.ref r) h') : T prog w A (binaryOp .Add (.ref a) (.ref b)) h Q := fun s es => by
  subst es
  obtain ⟨⟨cls, dd, data, sl⟩, ho, hc, n, hd⟩ := id hl
  obtain ⟨⟨cls2, dd2, data2, sl2⟩, ho2, hc2, n2, hd2⟩ := id hb
  simp only at hc hd hc2 hd2
  subst hc hd hc2 hd2
  have e : vs.toArray ++ ws.toArray = (vs ++ ws).toArray := by simp
  refine concat_meets ⟨_, ho, rfl⟩ ⟨_, ho2, rfl⟩ noFill_list_add seq_list_add PySem.F.slot_list_add PySem.F.entry_list_add (PySem.F.args_list_add_2 _ _) (list_addW a b vs.toArray ws.toArray n n2 dd dd2 sl sl2 (by simpa using hsz)) ⟨ho, ho2, ?_⟩
  rw [e]
  exact ⟨_, s.toks, rfl, q _ _ _ (Sub.push _ _) (get_size_none _) (get_push_self _ _) ⟨0, rfl⟩⟩
end
end Mine

end
section
open PySem PySem.W PyProof.Rows PySem.Calls
set_option Elab.async false
set_option linter.unusedVariables false
set_option maxRecDepth 100000
set_option maxHeartbeats 4000000
namespace Mine
section
variable {prog : Program} {w : World} {A : Around} {h h' h₀ h₁ : Heap} {env cenv : Env} {D : List Addr} {m : Str → Option Value} {l lo : List (Addr × Obj)} {K : Frag}
theorem T.fdiv {a b : Int} {t u : Tok} {Q : Value → Heap → Prop} (hb : b ≠ 0) (hs : b.natAbs < 1073741824) (q : ∀ t, Q (.int (a.fdiv b) t) h) : T prog w A (binaryOp .FloorDiv (.int a t) (.int b u)) h Q := fun s es => by subst es; exact PyProof.Rows.floordiv_int hb ⟨_, _, rfl, q _⟩ (.inl (PyProof.noPylong_small hs))
end
end Mine

end
section
open PySem PySem.W PyProof.Rows PySem.Calls
set_option Elab.async false
set_option linter.unusedVariables false
set_option maxRecDepth 100000
set_option maxHeartbeats 4000000
namespace Mine
section
variable {prog : Program} {w : World} {A : Around} {h h' h₀ : Heap} {env : Env} {D : List Addr} {m : Str → Option Value} {l : List (Addr × Obj)}
theorem T.cFloat {x : UInt64} {k : Nat} {pos : Pos} {Q : Value → Heap → Prop} (q : ∀ t, Q (.float x t) h) : T prog w A (eval (.Constant (.float x) k pos) env) h Q := fun s es => wpAny_Constant_float ⟨s.heap, s.toks + 1, rfl, es ▸ q _⟩
theorem T.mulFI {x : UInt64} {n : Int} {t u : Tok} {Q : Value → Heap → Prop} (hn : n.natAbs < 2 ^ 1023) (q : ∀ t, Q (.float (Float64.mul x (Float64.ofInt n)) t) h) : T prog w A (binaryOp .Mult (.float x t) (.int n u)) h Q := fun s es => by
  subst es
  exact mul_fi_fits hn ⟨_, _, rfl, q _⟩
noncomputable def ratioF (m n : Nat) : UInt64 := if n = 0 then 0x3ff0000000000000 else Float64.div (Float64.mul 0x4000000000000000 (Float64.ofInt (m : Int))) (Float64.ofInt (n : Int))
theorem small_pow {n : Nat} (hn : n ≤ 1000000) : (n : Int).natAbs < 2 ^ 1023 := by
  rw [Int.natAbs_natCast]
  exact Nat.lt_of_le_of_lt hn (by decide +kernel)
end
end Mine

end
section
open PySem PySem.W PyProof.Rows PySem.Calls
set_option Elab.async false
set_option linter.unusedVariables false
set_option maxRecDepth 100000
set_option maxHeartbeats 4000000
namespace Mine
section
variable {prog : Program} {w : World} {A : Around} {h h' h₀ : Heap} {env : Env} {D : List Addr} {m : Str → Option Value} {l : List (Addr × Obj)}
theorem gets_dict_has : GetsBound "dict.__contains__" "dict" := by
  intro M A E s a P hT q
  have e1 : ".".intercalate ("dict.__contains__".cutAt '.').dropLast = "dict" := by decide +kernel
  unfold Builtin.«method_descriptor.__get__»
  refine wpAny_bind (wpAny_of_eq (a := (.builtin "dict.__contains__", some (.ref a), some (.type "dict"))) (by first | rfl | kernel_rfl) ?_)
  dsimp only
  rw [if_neg (by decide +kernel)]
  repeat (first | (with_reducible refine wpAny_isInstance (b := true) hT sub_dict ?_) | rw [e1] | (with_reducible refine wpAny_newObj_type ?_) | lk)
  exact q
theorem bound_dict_has {s : Shared} {E : Value → Shared → Prop} {a : Addr} {o : Obj} {Q : Value → Shared → Prop} (hx : s.heap.get? a = some o) (hc : o.cls = .type "dict") (hd : o.dict = none) (hk : ∀ k, o.data ≠ .cls k)
    (q : Q (.ref s.heap.objs.size) { s with heap := s.heap.push (bnd "dict.__contains__" (.ref a)), toks := s.toks + 1 }) : wpAny (model prog w) A (getAttr (.ref a) (Str.ofString "__contains__") true) Q E s := by
  obtain ⟨c, dct, dat, sl⟩ := o
  simp only at hc hd hk
  subst hc hd
  obtain ⟨hp, g, d, tk, os⟩ := s
  have hT : ∀ tk', (⟨hp, g, d, tk', os⟩ : Shared).TypeIs (.ref a) "dict" := fun _ => ⟨_, hx, rfl⟩
  have f3 := F.slot_dict_getattribute.lookup
  have f4 := F.slot_dict_getattribute.bind (.ref a)
  have f5 := am_dict_getattr_none
  unfold getAttr getAttrBy
  repeat (any_goals (first | assumption | exact hT _ | ((with_reducible show wpAny _ _ (call (Value.builtin "dict.__getattribute__") _ _) _ _ _); refine call_meets F.slot_dict_getattribute (hT _) am_entry_dict_getattribute (F.args_dict_getattribute_2 _ _) (meets_bound (name := Str.ofString "__contains__") a dat sl _ gets_dict_has F.slot_dict_contains.lookup F.type_dict_contains (by decide +kernel) hk) ⟨hx, ?_⟩) | wp_step))
  exact wpAny_pure q
theorem t_boundHasD {a : Addr} {o : Obj} {Q : Value → Heap → Prop} (hx : h.get? a = some o) (hc : o.cls = .type "dict") (hd : o.dict = none) (hk : isCls o.data = false) (q : ∀ u h', Sub [] h h' → h.get? u = none → h'.get? u = some (bnd "dict.__contains__" (.ref a)) → Q (.ref u) h') :
    T prog w A (PySem.getAttr (.ref a) (Str.ofString "__contains__") true) h Q := fun s es => by
  subst es
  exact bound_dict_has hx hc hd (fun k e => by rw [e] at hk; cases hk) ⟨_, _, rfl, q _ _ (Sub.push _ _) (get_size_none _) (get_push_self _ _)⟩
theorem kind_dict_has : builtinKind "dict.__contains__" = some .method := by kernel_rfl
theorem t_callHasD {d u : Addr} {o : Obj} {kvs : List (Int × Value)} {k : Int} {t : Tok} {Q : Value → Heap → Prop} (hu : h.get? u = some (bnd "dict.__contains__" (.ref d))) (ho : h.get? d = some o) (hd : IsDic prog w o kvs) (lo : (d == sysModules) = false) (q : Q (.bool (valueAt kvs k).isSome) h) :
    T prog w A (PySem.call (.ref u) [.int k t]) h Q := fun s es => by
  subst es
  have hD := dicOf (prog := prog) (w := w) ho hd
  refine call_bound hu (fun E' Q' q' => check_bound (T' := "dict") ?_ kind_dict_has (by decide +kernel) sub_mod_dict ho hd.cls.1 (isCls_dic hd) q') PySem.F.slot_dict_contains.plain PySem.F.entry_dict_contains (meets_dict_contains (intKind prog w) d (intKind_is prog w k t) lo) ⟨_, hD.mapOf, ⟨_, _, rfl, q⟩⟩
  rw [signature?_of (id := "dict.__contains__") (n := ['_', '_', 's', 'n', 'i', 'a', 't', 'n', 'o', 'c', '_', '_']) (o := ['t', 'c', 'i', 'd']) (by kernel_rfl) PySem.F.owner_dict]; kernel_rfl
theorem t_SubDict {value idx : PySem.Expr} {pos : Pos} {Q : Value → Heap → Prop}
    (t : T prog w A (eval value env) h fun o h₁ => T prog w A (eval idx env) h₁ fun i h₂ => ∃ a ob kvs k u x, o = .ref a ∧ i = .int k u ∧ h₂.get? a = some ob ∧ IsDic prog w ob kvs ∧ valueAt kvs k = some x ∧ Q x h₂)
    (hsub : ∀ o i, subscripted idx false o i = operate [o, i] (getItem o i) := by intro _ _; rfl) : T prog w A (eval (.Subscript value idx pos) env) h Q := fun s es => by
  rw [eval_Subscript]
  refine wpAny_bind (wpAny_mono (t s es) (fun o s₁ h₁ => ?_) fun _ _ x => x)
  obtain ⟨g₁, t₁, rfl, h₁⟩ := h₁
  refine wpAny_bind (wpAny_holding (wpAny_mono (h₁ _ rfl) (fun i s₂ h₂ => wpAny_bind (wpAny_standAt ?_)) fun _ _ x => x))
  obtain ⟨g₂, t₂, rfl, a, ob, kvs, k, u, x, rfl, rfl, ho, hd, hx, q⟩ := h₂
  have hD : (⟨g₂, s.gens, s.drawn, t₂, s.os⟩ : Shared).heap.DictOf (intKind prog w) a kvs := dicOf (prog := prog) (w := w) ho hd
  have hT : (⟨g₂, s.gens, s.drawn, t₂, s.os⟩ : Shared).TypeIs (.ref a) "dict" := hD.typeIs
  refine wpAny_bind ?_
  rw [getitemInPython_of_ne hT.not_modules]
  refine wpAny_bind (wpAny_specialOf hT PySem.F.slot_dict_getitem.lookup ?_)
  have fin : wpAny (model prog w) A (operate [.ref a, .int k u] (getItem (.ref a) (.int k u))) (fun r s₃ => wpAny (model prog w) A (letTemporaryGo value (.ref a) r >>= fun _ => pure r) (fun a s' => ∃ h' tk, s' = { s with heap := h', toks := tk } ∧ Q a h') (fun _ _ => False) s₃) (fun _ _ => False) ⟨g₂, s.gens, s.drawn, t₂, s.os⟩ :=
    wpAny_operating (wpAny_getItem_of (intKind_is prog w k u) hD.mapOf hx (wpAny_bind (wpAny_letTemporaryGo (wpAny_pure ⟨_, _, rfl, q⟩))))
  have fin' := wpAny_bind fin
  rw [← hsub] at fin'
  exact wpAny_pure fin'
theorem t_Assign_Sub {o i value : PySem.Expr} {pa pos : Pos} {Q : Flow → Heap → Prop} (t : T prog w A (eval value env) h fun v h₁ => T prog w A (eval o env) h₁ fun ov h₂ => T prog w A (eval i env) h₂ fun iv h₃ => T prog w A (setItem ov iv v) h₃ fun _ => Q .next)
    (hs : swapsWith value (some (.Subscript o i pa)) pos.line env = Pure.pure false := by rfl) : T prog w A (exec (.Assign [.Subscript o i pa] value pos) env) h Q := fun s es =>
  wpAny_Assign_Subscript (wpAny_mono (t s es) (by
    rintro v s₁ ⟨h₁, t₁, rfl, y⟩
    refine wpAny_mono (y _ rfl) (by
      rintro ov s₂ ⟨h₂, t₂, rfl, z⟩
      refine wpAny_mono (z _ rfl) (by
        rintro iv s₃ ⟨h₃, t₃, rfl, z⟩
        exact wpAny_mono (z _ rfl) (by rintro _ s₄ ⟨h₄, t₄, rfl, q⟩; exact ⟨h₄, t₄, rfl, q⟩) fun _ _ z => z) fun _ _ z => z) fun _ _ z => z) fun _ _ z => z) hs
end
end Mine

end
section
set_option linter.unusedVariables false
namespace Mine
noncomputable def qm (b : List Int) : List Int → List Int → Nat
  | _, [] => 0
  | pre, x :: r => (if pre.count x < b.count x then 1 else 0) + qm b (pre ++ [x]) r
theorem qm_le (b : List Int) : ∀ (a pre : List Int), qm b pre a ≤ a.length
  | [], _ => Nat.le_refl _
  | x :: r, pre => by
    have := qm_le b r (pre ++ [x])
    simp only [qm, List.length_cons]
    split <;> (first | lia | omega)
theorem qm_snoc (b : List Int) (x : Int) : ∀ (a pre : List Int), qm b pre (a ++ [x]) = qm b pre a + (if (pre ++ a).count x < b.count x then 1 else 0)
  | [], pre => by simp [qm]
  | y :: r, pre => by
    have := qm_snoc b x r (pre ++ [y])
    simp only [List.cons_append, qm, this, List.append_assoc, List.singleton_append, List.nil_append]
    (first | lia | omega)
noncomputable def strike : List Int → List Int → List Int
  | left, [] => left
  | left, x :: r => strike (if x ∈ left then left.erase x else left) r
theorem strike_len (b : List Int) : ∀ (a pre left : List Int), (∀ y, left.count y = b.count y - pre.count y) → (strike left a).length + qm b pre a = left.length
  | [], pre, left, h => by simp [strike, qm]
  | x :: r, pre, left, h => by
    have hx := h x
    by_cases c : x ∈ left
    · have hc : 0 < left.count x := List.count_pos_iff.mpr c
      have c2 : pre.count x < b.count x := by (first | lia | omega)
      have ih := strike_len b r (pre ++ [x]) (left.erase x) fun y => by
        rw [List.count_append, List.count_erase, h y]
        by_cases e : y = x
        · subst e; simp; (first | lia | omega)
        · have e' : ¬ x = y := fun q => e q.symm
          simp [List.count_cons, e, e']
      have hl := List.length_erase_of_mem c
      have hp : 0 < left.length := List.length_pos_of_mem c
      simp only [strike, qm, if_pos c, if_pos c2]
      (first | lia | omega)
    · have hc : left.count x = 0 := List.count_eq_zero.mpr c
      have c2 : ¬ pre.count x < b.count x := by (first | lia | omega)
      have ih := strike_len b r (pre ++ [x]) left fun y => by
        rw [List.count_append, h y]
        by_cases e : y = x
        · subst e; simp; (first | lia | omega)
        · have e' : ¬ x = y := fun q => e q.symm
          simp [List.count_cons, e']
      simp only [strike, qm, if_neg c, if_neg c2]
      (first | lia | omega)
theorem common_qm (a b : List Int) : b.length - (strike b a).length = qm b [] a := by
  have := strike_len b a [] b fun y => by simp
  (first | lia | omega)
end Mine

end
section
open PySem PySem.W PyProof.Rows PySem.Calls
set_option Elab.async false
set_option linter.unusedVariables false
set_option maxRecDepth 100000
set_option maxHeartbeats 4000000
namespace Mine
section
variable {prog : Program} {w : World} {A : Around} {h h' h₀ h₁ : Heap} {env cenv : Env} {D : List Addr} {m : Str → Option Value} {l lo : List (Addr × Obj)}
variable {elt t0 i0 t1 i1 : PySem.Expr} {scope : Scope} {pos : Pos} {it acc : Value}
end
end Mine

end
section
open PySem PySem.W PyProof.Rows PySem.Calls
set_option Elab.async false
set_option linter.unusedVariables false
set_option maxRecDepth 100000
set_option maxHeartbeats 4000000
namespace Mine
theorem setGen_toks (s : Shared) (g : Nat) (x : GenState) : (s.setGen g x).toks = s.toks := rfl
theorem Runs.toks {M : Model} {Γ : Ctx} {p : Pos} {t : Sem Fin} {fs : List Frame} {s s' : Shared} {e : End} (x : Runs M Γ p t fs s e s') : s.toks ≤ s'.toks := by
  induction x <;> (try simp only [setGen_toks] at *) <;> (first | lia | omega)
theorem wakes_toks {M : Model} {Γ : Ctx} {p : Pos} {g : Nat} {r : Resume} {s s' : Shared} {res : GenResult} (x : Wakes M Γ p g r s res s') : s.toks ≤ s'.toks := by
  unfold Wakes at x
  repeat' split at x
  all_goals first
    | exact x.elim
    | (obtain ⟨e₁, s₁, h1, _, _, rfl⟩ := x; have := Runs.toks h1; simpa only [setGen_toks] using this)
    | (obtain ⟨_, rfl⟩ := x; exact Nat.le_refl _)
theorem wp_toks {α : Type} {M : Model} {Γ : Ctx} (t : Sem α) : ∀ {Q : α → Pos → Shared → Prop} {E : Value → Pos → Shared → Prop} {p : Pos} {s : Shared}, Sem.wp M Γ t Q E p s → Sem.wp M Γ t (fun a p' s' => Q a p' s' ∧ s.toks ≤ s'.toks) E p s := by
  have key : ∀ (t : Sem α) {Q : α → Pos → Shared → Prop} {E : Value → Pos → Shared → Prop} {p : Pos} {s : Shared} (n : Nat), n ≤ s.toks → Sem.wp M Γ t Q E p s → Sem.wp M Γ t (fun a p' s' => Q a p' s' ∧ n ≤ s'.toks) E p s := by
    intro t
    induction t with
    | pure a => intro Q E p s n hn h; rw [Sem.wp] at h ⊢; exact ⟨h, hn⟩
    | raise e => intro Q E p s n hn h; rw [Sem.wp] at h ⊢; exact h
    | unsupported _ => intro Q E p s n hn h; rw [Sem.wp] at h; exact h.elim
    | finish _ => intro Q E p s n hn h; rw [Sem.wp] at h; exact h.elim
    | rule _ k ih => intro Q E p s n hn h; rw [Sem.wp] at h ⊢; exact ih _ n hn h
    | «at» _ k ih => intro Q E p s n hn h; rw [Sem.wp] at h ⊢; exact ih _ n hn h
    | load a _ k ih => intro Q E p s n hn h; rw [Sem.wp] at h ⊢; obtain ⟨o, h1, h2⟩ := h; exact ⟨o, h1, ih _ n hn h2⟩
    | update a _ f k ih => intro Q E p s n hn h; rw [Sem.wp] at h ⊢; exact ⟨h.1, ih _ n hn h.2⟩
    | loadIfAlive a k ih => intro Q E p s n hn h; rw [Sem.wp] at h ⊢; exact ih _ n hn h
    | point _ k ih => intro Q E p s n hn h; rw [Sem.wp] at h ⊢; exact ih _ n hn h
    | register _ _ => intro Q E p s n hn h; rw [Sem.wp] at h; exact h.elim
    | alloc o k ih => intro Q E p s n hn h; rw [Sem.wp] at h ⊢; exact ih _ n hn h
    | fresh k ih => intro Q E p s n hn h; rw [Sem.wp] at h ⊢; exact ih _ n (Nat.le_succ_of_le hn) h
    | ask k ih => intro Q E p s n hn h; rw [Sem.wp] at h ⊢; exact ih _ n hn h
    | choose src m k ih => intro Q E p s n hn h; rw [Sem.wp] at h ⊢; exact ⟨h.1, ih _ n hn h.2⟩
    | os q _ k ih => intro Q E p s n hn h; rw [Sem.wp] at h ⊢; exact ih _ n hn h
    | call c hd _ _ k ih =>
      intro Q E p s n hn h; rw [Sem.wp] at h ⊢
      obtain ⟨r, s', h1, h2⟩ := h
      exact ⟨r, s', h1, ih _ n (Nat.le_trans hn (Runs.toks h1)) h2⟩
    | handled own k ih => intro Q E p s n hn h; rw [Sem.wp] at h ⊢; exact ih _ n hn h
    | genState g k ih => intro Q E p s n hn h; rw [Sem.wp] at h ⊢; obtain ⟨o, h1, h2⟩ := h; exact ⟨o, h1, ih _ n hn h2⟩
    | newGen c k ih => intro Q E p s n hn h; rw [Sem.wp] at h ⊢; exact ih _ n hn h
    | resume g r _ k ih =>
      intro Q E p s n hn h; rw [Sem.wp] at h ⊢
      obtain ⟨res, s', h1, h2⟩ := h
      exact ⟨res, s', h1, ih _ n (Nat.le_trans hn (wakes_toks h1)) h2⟩
    | yield _ _ _ _ => intro Q E p s n hn h; rw [Sem.wp] at h; exact h.elim
    | stack k ih => intro Q E p s n hn h; rw [Sem.wp] at h ⊢; exact ih _ n hn h
    | fork _ _ => intro Q E p s n hn h; rw [Sem.wp] at h; exact h.elim
    | thread k ih => intro Q E p s n hn h; rw [Sem.wp] at h ⊢; exact ih _ n hn h
    | await _ _ _ _ => intro Q E p s n hn h; rw [Sem.wp] at h; exact h.elim
  intro Q E p s h
  exact key t s.toks (Nat.le_refl _) h
theorem wpAny_toks {α : Type} {M : Model} {A : Around} {t : Sem α} {Q : α → Shared → Prop} {E : Value → Shared → Prop} {s : Shared} (x : wpAny M A t Q E s) : wpAny M A t (fun a s' => Q a s' ∧ s.toks ≤ s'.toks) E s := fun Γ p hΓ => wp_toks t (x Γ p hΓ)
theorem codeAny_toks {M : Model} {A : Around} {c : Code} {R : Result → Shared → Prop} {s : Shared} (x : codeAny M A c R s) : codeAny M A c (fun r s' => R r s' ∧ s.toks ≤ s'.toks) s := fun Γ p h1 h2 => by
  obtain ⟨r, s', h3, h4⟩ := x Γ p h1 h2
  exact ⟨r, s', h3, h4, Runs.toks h3⟩
section
variable {prog : Program} {w : World} {A : Around} {α β : Type} {h h' h₀ h₁ : Heap} {env cenv : Env} {D : List Addr} {m : Str → Option Value} {l : List (Addr × Obj)}
noncomputable def TP (prog : Program) (w : World) (A : Around) {α : Type} (t : Sem α) (h : Heap) (Q : α → Heap → Prop) : Prop :=
  ∀ s : Shared, s.heap = h → 0 < s.toks → wpAny (model prog w) A t (fun a s' => ∃ h' tk, s' = { s with heap := h', toks := tk } ∧ 0 < tk ∧ Q a h') (fun _ _ => False) s
noncomputable def TCP (prog : Program) (w : World) (A : Around) (c : Code) (h : Heap) (Q : Value → Heap → Prop) : Prop :=
  ∀ s : Shared, s.heap = h → 0 < s.toks → codeAny (model prog w) A c (fun r s' => ∃ v h' tk, r = .ok (.ret v) ∧ s' = { s with heap := h', toks := tk } ∧ 0 < tk ∧ Q v h') s
noncomputable def TFP (prog : Program) (w : World) (A : Around) (c : Code) (h : Heap) (Q : Flow → Heap → Prop) : Prop :=
  ∀ s : Shared, s.heap = h → 0 < s.toks → codeAny (model prog w) A c (fun r s' => ∃ f h' tk, r = .ok f ∧ s' = { s with heap := h', toks := tk } ∧ 0 < tk ∧ Q f h') s
theorem TP.of {t : Sem α} {Q : α → Heap → Prop} (x : T prog w A t h Q) : TP prog w A t h Q := fun s e hp => wpAny_mono (wpAny_toks (x s e)) (by
  rintro a s' ⟨⟨h', tk, rfl, q⟩, le⟩
  exact ⟨h', tk, rfl, Nat.lt_of_lt_of_le hp le, q⟩) fun _ _ z => z
theorem TCP.of {c : Code} {Q : Value → Heap → Prop} (x : TC prog w A c h Q) : TCP prog w A c h Q := fun s e hp => codeAny_mono (codeAny_toks (x s e)) (by
  rintro r s' ⟨⟨v, h', tk, rfl, rfl, q⟩, le⟩
  exact ⟨v, h', tk, rfl, rfl, Nat.lt_of_lt_of_le hp le, q⟩)
theorem TP.eq {t t' : Sem α} {Q : α → Heap → Prop} (e : t = t') (x : TP prog w A t' h Q) : TP prog w A t h Q := e ▸ x
theorem TCP.mono {c : Code} {Q Q' : Value → Heap → Prop} (x : TCP prog w A c h Q) (q : ∀ a h', Q a h' → Q' a h') : TCP prog w A c h Q' := fun s e hp =>
  codeAny_mono (x s e hp) (by rintro r s' ⟨v, h', tk, rfl, rfl, hp, y⟩; exact ⟨v, h', tk, rfl, rfl, hp, q _ _ y⟩)
theorem TP.call {f : Value} {pos : List Value} {kw : List (Str × Value)} {Q : Value → Heap → Prop} (x : TCP prog w A (.call f ⟨pos, kw⟩) h Q) : TP prog w A (call f pos kw) h Q := fun s e hp =>
  wpAny_call (codeAny_mono (x s e hp) (by rintro r s' ⟨v, h', tk, rfl, rfl, hp, q⟩; exact ⟨h', tk, rfl, hp, q⟩))
noncomputable def TPArgs (prog : Program) (w : World) (A : Around) (env : Env) : List PySem.Expr → Heap → (List Value → Heap → Prop) → Prop
  | [], h, Q => Q [] h
  | e :: r, h, Q => TP prog w A (eval e env) h fun v h₁ => TPArgs prog w A env r h₁ fun vs h₂ => Q (v :: vs) h₂
theorem TP.bind {t : Sem α} {f : α → Sem β} {Q : β → Heap → Prop} (x : TP prog w A t h fun a h' => TP prog w A (f a) h' Q) : TP prog w A (t >>= f) h Q := fun s e hp =>
  wpAny_bind (wpAny_mono (x s e hp) (by
    rintro a s' ⟨h', tk, rfl, hp, y⟩
    exact wpAny_mono (y _ rfl hp) (by rintro b s'' ⟨h'', tk', rfl, hp, z⟩; exact ⟨h'', tk', rfl, hp, z⟩) fun _ _ z => z) fun _ _ z => z.elim)

theorem TP.mono {t : Sem α} {Q Q' : α → Heap → Prop} (x : TP prog w A t h Q) (q : ∀ a h', Q a h' → Q' a h') : TP prog w A t h Q' := fun s e hp =>
  wpAny_mono (x s e hp) (by rintro a s' ⟨h', tk, rfl, hp, y⟩; exact ⟨h', tk, rfl, hp, q _ _ y⟩) fun _ _ z => z

theorem TP.holding {vs : List Value} {t : Sem α} {Q : α → Heap → Prop} (x : TP prog w A t h Q) : TP prog w A (holding vs t) h Q := fun s e hp => wpAny_holding (x s e hp)

theorem TP.standAt {p : Pos} {Q : Unit → Heap → Prop} (q : Q () h) : TP prog w A (standAt p) h Q := fun s e hp => wpAny_standAt ⟨s.heap, s.toks, rfl, hp, e ▸ q⟩

theorem TP.execs_nil {Q : Flow → Heap → Prop} (q : Q .next h) : TP prog w A (execs [] env) h Q := fun s e hp => wpAny_execs_nil ⟨s.heap, s.toks, rfl, hp, e ▸ q⟩

theorem TP.execs_cons {st : Stmt} {rest : List Stmt} {Q : Flow → Heap → Prop} (x : TP prog w A (exec st env) h fun f h' => match f with | .next => TP prog w A (execs rest env) h' Q | f => Q f h') :
    TP prog w A (execs (st :: rest) env) h Q := fun s e hp => wpAny_execs_cons (wpAny_mono (x s e hp) (by
    rintro f s' ⟨h', tk, rfl, hp, y⟩
    cases f with
    | next => exact wpAny_mono (y _ rfl hp) (by rintro b s'' ⟨h'', tk', rfl, hp, z⟩; exact ⟨h'', tk', rfl, hp, z⟩) fun _ _ z => z
    | brk => exact ⟨_, _, rfl, hp, y⟩
    | cont => exact ⟨_, _, rfl, hp, y⟩
    | ret v => exact ⟨_, _, rfl, hp, y⟩) fun _ _ z => z)

theorem TP.Assign_Name {x : Str} {px pos : Pos} {value : PySem.Expr} {Q : Flow → Heap → Prop} (t : TP prog w A (eval value env) h fun v h' => TP prog w A (storeName env x v) h' fun _ => Q .next)
    (hs : swapsWith value (some (.Name x px)) pos.line env = Pure.pure false := by rfl) : TP prog w A (exec (.Assign [.Name x px] value pos) env) h Q := fun s e hp =>
  wpAny_Assign_Name (wpAny_mono (t s e hp) (by
    rintro v s' ⟨h', tk, rfl, hp, y⟩
    exact wpAny_mono (y _ rfl hp) (by rintro b s'' ⟨h'', tk', rfl, hp, z⟩; exact ⟨h'', tk', rfl, hp, z⟩) fun _ _ z => z) fun _ _ z => z) hs

theorem TP.If {test : PySem.Expr} {body orelse : List Stmt} {pos : Pos} {Q : Flow → Heap → Prop} (t : TP prog w A (isTrue test env (eval test env)) h fun b h' => if b = true then TP prog w A (execs body env) h' Q else TP prog w A (execs orelse env) h' Q) :
    TP prog w A (exec (.If test body orelse pos) env) h Q := fun s e hp =>
  wpAny_If (wpAny_mono (t s e hp) (by
    rintro b s' ⟨h', tk, rfl, hp, y⟩
    cases b with
    | true => exact wpAny_mono (y _ rfl hp) (by rintro b s'' ⟨h'', tk', rfl, hp, z⟩; exact ⟨h'', tk', rfl, hp, z⟩) fun _ _ z => z
    | false => exact wpAny_mono (y _ rfl hp) (by rintro b s'' ⟨h'', tk', rfl, hp, z⟩; exact ⟨h'', tk', rfl, hp, z⟩) fun _ _ z => z) fun _ _ z => z)

theorem TP.Return {e : PySem.Expr} {pos : Pos} {Q : Flow → Heap → Prop} (t : TP prog w A (eval e env) h fun v => Q (.ret v)) : TP prog w A (exec (.Return (some e) pos) env) h Q := fun s e hp => wpAny_Return_some (t s e hp)

theorem TP.Expr {e : PySem.Expr} {pos : Pos} {Q : Flow → Heap → Prop} (t : TP prog w A (eval e env) h fun v h' => (∀ a, v ≠ .ref a) ∧ Q .next h') (hi : interactive env = false := by rfl) (hs : swapsWith e none pos.line env = Pure.pure false := by rfl) :
    TP prog w A (exec (.Expr e pos) env) h Q := fun s e hp =>
  wpAny_Expr (wpAny_mono (t s e hp) (by
    rintro v s' ⟨h', tk, rfl, hp, n, y⟩
    cases v with
    | ref a => exact n a rfl
    | _ => exact ⟨_, _, rfl, hp, y⟩) fun _ _ z => z) hi hs

theorem TP.BinOp {a b : PySem.Expr} {op : Operator} {pos : Pos} {Q : Value → Heap → Prop} (t : TP prog w A (eval a env) h fun x h₁ => TP prog w A (eval b env) h₁ fun y h₂ => TP prog w A (binaryOp op x y) h₂ Q) :
    TP prog w A (eval (.BinOp a op b pos) env) h Q := fun s e hp => wpAny_BinOp (wpAny_mono (t s e hp) (by
    rintro v s' ⟨h', tk, rfl, hp, y⟩
    refine wpAny_mono (y _ rfl hp) (by
      rintro b s'' ⟨h'', tk', rfl, hp, z⟩
      exact wpAny_mono (z _ rfl hp) (by rintro b s'' ⟨h'', tk', rfl, hp, z⟩; exact ⟨h'', tk', rfl, hp, z⟩) fun _ _ z => z) fun _ _ z => z) fun _ _ z => z)

theorem TP.Compare {a b : PySem.Expr} {op : CmpOp} {pos : Pos} {Q : Value → Heap → Prop} (t : TP prog w A (eval a env) h fun x h₁ => TP prog w A (eval b env) h₁ fun y h₂ => TP prog w A (compareOp op x y) h₂ Q)
    (hm : behindInMarks op b = false := by with_unfolding_all rfl) : TP prog w A (eval (.Compare a [op] [b] pos) env) h Q := fun s e hp => wpAny_Compare1 (wpAny_mono (t s e hp) (by
    rintro v s' ⟨h', tk, rfl, hp, y⟩
    refine wpAny_mono (y _ rfl hp) (by
      rintro b s'' ⟨h'', tk', rfl, hp, z⟩
      exact wpAny_mono (z _ rfl hp) (by rintro b s'' ⟨h'', tk', rfl, hp, z⟩; exact ⟨h'', tk', rfl, hp, z⟩) fun _ _ z => z) fun _ _ z => z) fun _ _ z => z) hm

theorem TP.isTrue_Compare {a b : PySem.Expr} {op : CmpOp} {pos : Pos} {whole : Sem Value} {Q : Bool → Heap → Prop} (t : TP prog w A (eval a env) h fun x h₁ => TP prog w A (eval b env) h₁ fun y h₂ => TP prog w A (compareOp op x y) h₂ fun c h₃ => TP prog w A (truthy c) h₃ Q)
    (hm : behindInMarks op b = false := by with_unfolding_all rfl) : TP prog w A (isTrue (.Compare a [op] [b] pos) env whole) h Q := fun s e hp => wpAny_isTrue_Compare1 (wpAny_mono (t s e hp) (by
    rintro v s' ⟨h', tk, rfl, hp, y⟩
    refine wpAny_mono (y _ rfl hp) (by
      rintro b s'' ⟨h'', tk', rfl, hp, z⟩
      refine wpAny_mono (z _ rfl hp) (by
        rintro b s'' ⟨h'', tk', rfl, hp, z⟩
        exact wpAny_mono (z _ rfl hp) (by rintro b s'' ⟨h'', tk', rfl, hp, z⟩; exact ⟨h'', tk', rfl, hp, z⟩) fun _ _ z => z) fun _ _ z => z) fun _ _ z => z) fun _ _ z => z) hm

theorem TP.For {target iter : PySem.Expr} {body : List Stmt} {pos : Pos} {Q : Flow → Heap → Prop}
    (x : TP prog w A (eval iter env) h fun v h₁ => TP prog w A (pyIter v) h₁ fun it h₂ => TFP prog w A (.forLoop target it body [] env) h₂ Q)
    (hs : ∀ x, foldedSetIterable iter env x = Pure.pure x := by intro _; rfl) : TP prog w A (exec (.For target iter body [] pos) env) h Q := fun s e hp =>
  wpAny_For (wpAny_mono (x s e hp) (by
    rintro v s₁ ⟨h₁, t₁, rfl, hp, y⟩
    refine wpAny_mono (y _ rfl hp) (by
      rintro it s₂ ⟨h₂, t₂, rfl, hp, z⟩
      exact codeAny_mono (z _ rfl hp) (by rintro r s₃ ⟨f, h₃, t₃, rfl, rfl, hp, q⟩; exact ⟨h₃, t₃, rfl, hp, q⟩)) fun _ _ z => z) fun _ _ z => z) hs

theorem TFP.forLoop {target : PySem.Expr} {it : Value} {body : List Stmt} {Q : Flow → Heap → Prop} (I : Nat → Heap → Prop)
    (turn : ∀ n h, I n h → TP prog w A (pyNext it) h fun r h₁ => match r with
      | none => Q .next h₁
      | some v => TP prog w A (letOwnedTupleGo target it v) h₁ fun _ h₁ => TP prog w A (assign target env v) h₁ fun _ h₂ => TP prog w A (execs body env) h₂ fun f h₃ => match f with
          | .next | .cont => ∃ m, m < n ∧ I m h₃
          | .brk => Q .next h₃
          | .ret v => Q (.ret v) h₃)
    (n : Nat) (hI : I n h) : TFP prog w A (.forLoop target it body [] env) h Q := fun s e hp => by
  subst e
  refine codeAny_forLoop_any (fun n s' => ∃ h' tk, s' = { s with heap := h', toks := tk } ∧ 0 < tk ∧ I n h') ?_ n ⟨s.heap, s.toks, rfl, hp, hI⟩
  rintro n s' ⟨h', tk, rfl, hp, hI⟩
  refine wpAny_mono (turn n h' hI _ rfl hp) (by
    rintro r s₁ ⟨h₁, t₁, rfl, hp, y⟩
    cases r with
    | none => exact wpAny_execs_nil ⟨_, _, _, rfl, rfl, hp, y⟩
    | some v =>
      refine wpAny_mono (y _ rfl hp) (by
        rintro _ s₁ ⟨h₁, t₁, rfl, hp, y⟩
        refine wpAny_mono (y _ rfl hp) (by
          rintro _ s₂ ⟨h₂, t₂, rfl, hp, z⟩
          refine wpAny_mono (z _ rfl hp) (by
            rintro f s₃ ⟨h₃, t₃, rfl, hp, q⟩
            cases f with
            | next => exact q.imp fun k x => ⟨x.1, h₃, t₃, rfl, hp, x.2⟩
            | cont => exact q.imp fun k x => ⟨x.1, h₃, t₃, rfl, hp, x.2⟩
            | brk => exact ⟨_, _, _, rfl, rfl, hp, q⟩
            | ret v => exact ⟨_, _, _, rfl, rfl, hp, q⟩) fun _ _ z => z.elim) fun _ _ z => z.elim) fun _ _ z => z.elim) fun _ _ z => z.elim

theorem TPArgs.mono : ∀ {es : List PySem.Expr} {h : Heap} {Q Q' : List Value → Heap → Prop}, TPArgs prog w A env es h Q → (∀ vs h, Q vs h → Q' vs h) → TPArgs prog w A env es h Q'
  | [], _, _, _, x, q => q _ _ x
  | _ :: _, _, _, _, x, q => TP.mono x fun _ _ y => TPArgs.mono y fun _ _ z => q _ _ z

theorem TPArgs.wp (hs : ∀ e ∈ es, ∀ v p, e ≠ .Starred v p) {pos : Pos} {Q : List Value → Heap → Prop} (x : TPArgs prog w A env es h Q) : TP prog w A (spliced (backTo pos (starEach es env))) h Q := by
  induction es generalizing h Q with
  | nil => intro s e hp; subst e; exact spliced_nil ⟨_, s.toks, rfl, hp, x⟩
  | cons e r ih =>
    have he : starEach (e :: r) env = (false, eval e env) :: starEach r env := by
      cases e <;> first | rfl | exact absurd rfl (hs _ (.head _) _ _)
    rw [he]
    intro s es hp
    refine spliced_cons (wpAny_mono (TP.mono x (fun v h₁ y => ih (fun e he => hs e (.tail _ he)) y) s es hp) (by
      rintro v s₁ ⟨h₁, t₁, rfl, hp, y⟩
      exact wpAny_mono (y _ rfl hp) (by rintro vs s₂ ⟨h₂, t₂, rfl, hp, z⟩; exact ⟨h₂, t₂, rfl, hp, z⟩) fun _ _ z => z) fun _ _ z => z)

theorem TP.callWith {pos : Pos} {f : Value} {first : List Value} {es : List PySem.Expr} {Q : Value → Heap → Prop}
    (x : TPArgs prog w A env es h fun vs h₁ => Keeps prog w f h₁ ∧ TP prog w A (PySem.call f (first ++ vs)) h₁ Q) (hs : noStars es = true) :
    TP prog w A (callWith pos f first (backTo pos (starEach es env)) []) h Q := fun s e hp => by
  have hplain : ((backTo pos (starEach es env)).any (·.1) || ([] : List (Option Str × Sem Value)).any (·.1.isNone)) = false := by
    have : ∀ es : List PySem.Expr, noStars es = true → (backTo pos (starEach es env)).any (·.1) = false := by
      intro es hs
      induction es with
      | nil => rfl
      | cons e r ih =>
        have he : starEach (e :: r) env = (false, eval e env) :: starEach r env := by
          cases e <;> first | rfl | exact absurd rfl (noStars_of hs _ (.head _) _ _)
        rw [he]
        have hr : noStars r = true := by
          unfold noStars at hs ⊢
          rw [List.all_cons, Bool.and_eq_true] at hs
          exact hs.2
        show (false || (backTo pos (starEach r env)).any (·.1)) = false
        rw [ih hr]; rfl
    rw [this es hs]; rfl
  refine callWith_of (P := fun h => Keeps prog w f h) hplain (fun h k => k) ?_
  cases es with
  | nil =>
    refine evalArgs_nil3 ?_
    subst e
    exact ⟨x.1, wpAny_mono (x.2 s rfl hp) (by rintro vs s₂ ⟨h₂, t₂, rfl, hp, z⟩; exact ⟨h₂, t₂, rfl, hp, z⟩) fun _ _ z => z⟩
  | cons e₁ r =>
    have he : starEach (e₁ :: r) env = (false, eval e₁ env) :: starEach r env := by
      cases e₁ <;> first | rfl | exact absurd rfl (noStars_of hs _ (.head _) _ _)
    have y := TPArgs.wp (pos := pos) (noStars_of hs) x s e hp
    rw [he] at y ⊢
    refine evalArgs_plain (wpAny_mono y (by
      rintro vs s₁ ⟨h₁, t₁, rfl, hp, k, z⟩
      exact ⟨k, wpAny_mono (z _ rfl hp) (by rintro vs s₂ ⟨h₂, t₂, rfl, hp, z⟩; exact ⟨h₂, t₂, rfl, hp, z⟩) fun _ _ z => z⟩) fun _ _ z => z)

theorem TP.Call_Name {x : Str} {p pos : Pos} {es : List PySem.Expr} {Q : Value → Heap → Prop} (t : TP prog w A (eval (.Name x p) env) h fun f h₁ => TP prog w A (PySem.callWith pos f [] (backTo pos (starEach es env)) []) h₁ Q) :
    TP prog w A (eval (.Call (.Name x p) es [] pos) env) h Q := fun s e hp => PyProof.Rows.Call_Name rfl (wpAny_mono (t s e hp) (by
      rintro vs s₁ ⟨h₁, t₁, rfl, hp, z⟩
      exact wpAny_mono (z _ rfl hp) (by rintro vs s₂ ⟨h₂, t₂, rfl, hp, z⟩; exact ⟨h₂, t₂, rfl, hp, z⟩) fun _ _ z => z) fun _ _ z => z)

theorem TP.Call_method {o : PySem.Expr} {name : Str} {apos pos : Pos} {es : List PySem.Expr} {pl : Sem Bool} {Q : Value → Heap → Prop}
    (t : TP prog w A (eval o env) h fun ov h₁ => TP prog w A (getMethod ov name pl) h₁ fun fx h₂ => TP prog w A (PySem.callWith pos fx.1 fx.2 (backTo pos (starEach es env)) []) h₂ Q)
    (he : eval (.Call (.Attribute o name apos) es [] pos) env = (do
      let ov ← eval o env
      PySem.standAt apos.atName
      let (f, first) ← PySem.holding [ov] (getMethod ov name pl)
      PySem.callWith pos f first (backTo pos (starEach es env)) (backToKw pos (keywordEach [] env))) := by rfl) :
    TP prog w A (eval (.Call (.Attribute o name apos) es [] pos) env) h Q := fun s e hp => methodCall_KW (pl := pl) (wpAny_mono (t s e hp) (by
      rintro ov s₁ ⟨h₁, t₁, rfl, hp, z⟩
      exact wpAny_mono (z _ rfl hp) (by
        rintro fx s₂ ⟨h₂, t₂, rfl, hp, z⟩
        exact wpAny_mono (z _ rfl hp) (by rintro vs s₂ ⟨h₂, t₂, rfl, hp, z⟩; exact ⟨h₂, t₂, rfl, hp, z⟩) fun _ _ z => z) fun _ _ z => z) fun _ _ z => z) he

theorem p_List {elts : List PySem.Expr} {pos : Pos} {Q : Value → Heap → Prop} (x : TPArgs prog w A env elts h fun vs h₁ => vs.length ≤ sizeLine ∧ ∀ a h' o, Sub [] h₁ h' → h₁.get? a = none → h'.get? a = some o → IsLst o vs → Q (.ref a) h') (hs : noStars elts = true) :
    TP prog w A (eval (.List elts pos) env) h Q := fun s es hp => List_ (wpAny_mono (TPArgs.wp (noStars_of hs) x s es hp) (by
      rintro vs s₁ ⟨h₁, t₁, rfl, hp, hsz, q⟩
      exact wpAny_newObj_type (dict := none) ⟨_, _, rfl, hp, q _ _ _ (Sub.push _ _) (get_size_none _) (get_push_self _ _) ⟨0, rfl⟩⟩ (by show vs.toArray.size ≤ sizeLine; simpa using hsz)) fun _ _ z => z)

theorem p_Tuple {elts : List PySem.Expr} {k : Nat} {pos : Pos} {Q : Value → Heap → Prop} (x : TPArgs prog w A env elts h fun vs h₁ => vs.length ≤ sizeLine ∧ ∀ a h' o, Sub [] h₁ h' → h₁.get? a = none → h'.get? a = some o → IsTupO o vs → Q (.ref a) h') (hs : noStars elts = true) :
    TP prog w A (eval (.Tuple elts k pos) env) h Q := fun s es hp => Tuple_ (wpAny_mono (TPArgs.wp (noStars_of hs) x s es hp) (by
      rintro vs s₁ ⟨h₁, t₁, rfl, hp, hsz, q⟩
      exact wpAny_newObj_type (dict := none) ⟨_, _, rfl, hp, q _ _ _ (Sub.push _ _) (get_size_none _) (get_push_self _ _) ⟨0, rfl⟩⟩ (by show vs.toArray.size ≤ sizeLine; simpa using hsz)) fun _ _ z => z)

theorem p_isTrue_plain {e : PySem.Expr} {whole : Sem Value} {Q : Bool → Heap → Prop} (t : TP prog w A whole h fun v h₁ => TP prog w A (truthy v) h₁ Q) (he : isTrue e env whole = (do let v ← whole; PySem.standAt e.pos; PySem.holding [v] (truthy v)) := by rfl) : TP prog w A (isTrue e env whole) h Q :=
  TP.eq he (TP.bind (t.mono fun v h₁ x => TP.bind (TP.standAt (TP.holding x))))

theorem p_IfExp {test body orelse : PySem.Expr} {pos : Pos} {Q : Value → Heap → Prop} (t : TP prog w A (isTrue test env (eval test env)) h fun c h₁ => if c = true then TP prog w A (eval body env) h₁ Q else TP prog w A (eval orelse env) h₁ Q) : TP prog w A (eval (.IfExp test body orelse pos) env) h Q := fun s es hp =>
  IfExp_ (wpAny_mono (t s es hp) (by
    rintro c s₁ ⟨h₁, t₁, rfl, hp, z⟩
    cases c with
    | true => exact wpAny_mono (z _ rfl hp) (by rintro vs s₂ ⟨h₂, t₂, rfl, hp, z⟩; exact ⟨h₂, t₂, rfl, hp, z⟩) fun _ _ z => z
    | false => exact wpAny_mono (z _ rfl hp) (by rintro vs s₂ ⟨h₂, t₂, rfl, hp, z⟩; exact ⟨h₂, t₂, rfl, hp, z⟩) fun _ _ z => z) fun _ _ z => z)

theorem p_SubListG {value idx : PySem.Expr} {pos : Pos} {Q : Value → Heap → Prop}
    (t : TP prog w A (eval value env) h fun o h₁ => TP prog w A (eval idx env) h₁ fun i h₂ => ∃ a vs k u x, o = .ref a ∧ i = .int k u ∧ h₂.IsList a (List.toArray vs) ∧ 0 ≤ k ∧ k < 2 ^ 63 ∧ vs[k.toNat]? = some x ∧ Q x h₂)
    (hsub : ∀ o i, subscripted idx false o i = operate [o, i] (getItem o i) := by intro _ _; rfl) : TP prog w A (eval (.Subscript value idx pos) env) h Q := fun s es hp => by
  rw [eval_Subscript]
  refine wpAny_bind (wpAny_mono (t s es hp) (fun o s₁ h₁ => ?_) fun _ _ x => x)
  obtain ⟨g₁, t₁, rfl, hp, h₁⟩ := h₁
  refine wpAny_bind (wpAny_holding (wpAny_mono (h₁ _ rfl hp) (fun i s₂ h₂ => wpAny_bind (wpAny_standAt ?_)) fun _ _ x => x))
  obtain ⟨g₂, t₂, rfl, hp, a, vs, k, u, x, rfl, rfl, hl, h0, hk, hx, q⟩ := h₂
  have hT : (⟨g₂, s.gens, s.drawn, t₂, s.os⟩ : Shared).TypeIs (.ref a) "list" := hl.typeIs
  refine wpAny_bind ?_
  rw [getitemInPython_of_ne hT.not_modules]
  refine wpAny_bind (wpAny_specialOf hT PySem.F.slot_list_getitem.lookup ?_)
  have fin : wpAny (model prog w) A (operate [.ref a, .int k u] (getItem (.ref a) (.int k u))) (fun r s₃ => wpAny (model prog w) A (letTemporaryGo value (.ref a) r >>= fun _ => pure r) (fun a s' => ∃ h' tk, s' = { s with heap := h', toks := tk } ∧ 0 < tk ∧ Q a h') (fun _ _ => False) s₃) (fun _ _ => False) ⟨g₂, s.gens, s.drawn, t₂, s.os⟩ :=
    wpAny_operating (getItem_listL hl h0 hk hx (wpAny_bind (wpAny_letTemporaryGo (wpAny_pure ⟨_, _, rfl, hp, q⟩))))
  have fin' := wpAny_bind fin
  rw [← hsub] at fin'
  exact wpAny_pure fin'
theorem p_tests0 {Q : Bool → Heap → Prop} (q : Q true h) : TP prog w A (compTests env []) h Q := fun s es hp => wpAny_tests_nil ⟨s.heap, s.toks, rfl, hp, es ▸ q⟩

theorem p_tests1 {c : PySem.Expr} {Q : Bool → Heap → Prop} (t : TP prog w A (isTrue c env (eval c env)) h Q) : TP prog w A (compTests env [c]) h Q := fun s es hp => wpAny_tests_one (t s es hp)

noncomputable def CompBodyP (prog : Program) (w : World) (A : Around) (cenv : Env) (target : PySem.Expr) (ifs : List PySem.Expr) (elt : PySem.Expr) (acc : Value) (v : Value) (h : Heap) (R : Heap → Prop) : Prop :=
  TP prog w A (assign target cenv v) h fun _ h₂ => TP prog w A (compTests cenv ifs) h₂ fun ok h₃ => if ok = true then TP prog w A (eval elt cenv) h₃ fun x h₄ => TP prog w A (call (.builtin "list.append") [acc, x]) h₄ fun _ h₅ => R h₅ else R h₃

noncomputable def TLP (prog : Program) (w : World) (A : Around) (c : Code) (h : Heap) (Q : Heap → Prop) : Prop :=
  ∀ s : Shared, s.heap = h → 0 < s.toks → codeAny (model prog w) A c (fun r s' => ∃ h' tk, r = .ok .next ∧ s' = { s with heap := h', toks := tk } ∧ 0 < tk ∧ Q h') s

theorem tlp_loop {elt target iter : PySem.Expr} {ifs : List PySem.Expr} {scope : Scope} {pos : Pos} {it acc : Value} {Q : Heap → Prop} (I : Nat → Heap → Prop)
    (turn : ∀ n h, I n h → TP prog w A (pyNext it) h fun r h₁ => match r with
      | none => Q h₁
      | some v => TP prog w A (letOwnedTupleGo target it v) h₁ fun _ h₂ => CompBodyP prog w A cenv target ifs elt acc v h₂ fun h₃ => ∃ m, m < n ∧ I m h₃)
    (n : Nat) (hI : I n h) : TLP prog w A (.compLoop (.ListComp elt [⟨target, iter, ifs, 0⟩] scope pos) 0 it acc cenv) h Q := fun s es hp => by
  subst es
  refine codeAny_loop rfl (fun n s' => ∃ h' tk, s' = { s with heap := h', toks := tk } ∧ 0 < tk ∧ I n h') ?_ n ⟨s.heap, s.toks, rfl, hp, hI⟩
  rintro n s' ⟨h', tk, rfl, hp, hI⟩
  show wpAny _ A ((compTurn (.ListComp elt [⟨target, iter, ifs, 0⟩] scope pos) 0 it acc cenv).onRaise (fun x => do noteFrame x cenv; theTreesLotGoes x)) _ _ _
  refine wpAny_noted ?_
  rw [compTurn_list]
  refine wpAny_bind (wpAny_standAt (wpAny_bind (wpAny_mono (turn n h' hI _ rfl hp) ?_ fun _ _ z => z.elim)))
  rintro r s₁ ⟨h₁, t₁, rfl, hp, z⟩
  cases r with
  | none => exact wpAny_pure ⟨_, _, rfl, rfl, hp, z⟩
  | some v =>
    refine wpAny_bind (wpAny_mono (z _ rfl hp) ?_ fun _ _ z => z.elim)
    rintro _ s₂ ⟨h₂, t₂, rfl, hp, z⟩
    refine wpAny_bind (wpAny_mono (z _ rfl hp) ?_ fun _ _ z => z.elim)
    rintro _ s₃ ⟨h₃, t₃, rfl, hp, z⟩
    refine wpAny_bind (wpAny_mono (z _ rfl hp) ?_ fun _ _ z => z.elim)
    rintro ok s₄ ⟨h₄, t₄, rfl, hp, z⟩
    cases ok with
    | false =>
      obtain ⟨k, hk, z⟩ := z
      exact wpAny_pure ⟨rfl, k, hk, _, _, rfl, hp, z⟩
    | true =>
      refine wpAny_bind (wpAny_bind (wpAny_mono (z _ rfl hp) ?_ fun _ _ z => z.elim))
      rintro y s₅ ⟨h₅, t₅, rfl, hp, z⟩
      refine wpAny_bind (wpAny_mono (z _ rfl hp) ?_ fun _ _ z => z.elim)
      rintro _ s₆ ⟨h₆, t₆, rfl, hp, k, hk, z⟩
      exact wpAny_pure (wpAny_pure ⟨rfl, k, hk, _, _, rfl, hp, z⟩)
variable {elt : PySem.Expr} {scope : Scope} {pos : Pos}
theorem comp_coreP {target iter : PySem.Expr} {ifs : List PySem.Expr} {rest : List Comprehension} {cl : List (Str × Addr)} {s : Shared} {h₂ : Heap} {t₂ : Nat} {I : Addr} {n : Nat} {P : Nat → Value → Prop} {oI : Obj} {St : Nat → Obj → Prop} {E : Value → Shared → Prop} {RR : Value → Addr → Result → Shared → Prop} (e : EnvOk env) (hcell' : ∀ y ∈ scope.names, y.2 ≠ .cell) (hkind : scope.kind = .function)
    (ht₂ : 0 < t₂) (sub₂ : Sub [] h₁ h₂) (nI : h₁.get? I = none) (gI : h₂.get? I = some oI) (st0 : St 0 oI) (It : Iter prog w A I h₁ n P St target)
    (body : ∀ (env' : Env) acc oacc h₃, EnvOk env' → env'.scope = relabel scope env → env'.cells = cl → IsLst oacc [] → S h₁ [] env'.locals (fun _ => none) ([(acc, oacc)] ++ [(I, oI)]) h₃ →
      TLP prog w A (.compLoop (.ListComp elt (⟨target, iter, ifs, 0⟩ :: rest) scope pos) 0 (.ref I) (.ref acc) env') h₃ fun h' => ∀ tk, 0 < tk → RR (.ref acc) env'.locals (.ok .next) { s with heap := h', toks := tk }) :
    wpAny (model prog w) A (newList []) (fun acc s₃ => wpAny (model prog w) A (newFunctionEnv scope env.globals cl [] env.qual none .none (some env)) (fun cenv s₄ =>
      codeAny (model prog w) A (.compStart (.ListComp elt (⟨target, iter, ifs, 0⟩ :: rest) scope pos) 0 (.ref I) acc { cenv with scope := relabel scope env }) (RR acc cenv.locals) s₄) E s₃) E { s with heap := h₂, toks := t₂ } := by
  refine wpAny_newObj_type (wpAny_newFunctionEnv hcell' (by intro y hy; simp at hy) (fun h₃ hns₃ hsb₃ => ?_) hkind)
  dsimp only at hns₃ hsb₃ ⊢
  generalize hH2 : h₂.push { cls := .type "list", dict := none, data := .seq ([] : List Value).toArray } = H2 at hns₃ hsb₃ ⊢
  have gA : H2.get? h₂.objs.size = some { cls := .type "list", dict := none, data := .seq ([] : List Value).toArray } := by rw [← hH2]; exact get_push_self _ _
  have s23 : Sub [] h₂ H2 := by rw [← hH2]; exact Sub.push _ _
  have nC : H2.get? H2.objs.size = none := get_size_none _
  have s34 : Sub [] H2 h₃ := fun b o _ eb => by
    have hb : b ≠ H2.objs.size := fun q => by rw [q, nC] at eb; cases eb
    exact hsb₃.extBut b o hb (Heap.get?_push_of_some _ eb)
  have nA : h₂.get? h₂.objs.size = none := get_size_none _
  generalize hAa : h₂.objs.size = aA at *
  generalize hCc : H2.objs.size = aC at *
  have none1 : ∀ {a}, h₂.get? a = none → h₁.get? a = none := fun {a} ha => by
    cases q : h₁.get? a with
    | none => rfl
    | some o => rw [sub₂ a o (by first | walk_at "mem" | simp) q] at ha; cases ha
  have none2 : h₂.get? aC = none := by
    cases q : h₂.get? aC with
    | none => rfl
    | some o => rw [s23 aC o (by first | walk_at "mem" | simp) q] at nC; cases nC
  have hAI : aA ≠ I := fun q => by rw [q, gI] at nA; cases nA
  have hAC : aA ≠ aC := fun q => by rw [q, nC] at gA; cases gA
  have hIC : I ≠ aC := fun q => by rw [q, none2] at gI; cases gI
  have H : S h₁ [] aC (fun _ => none) ([(aA, { cls := .type "list", dict := none, data := .seq ([] : List Value).toArray })] ++ [(I, oI)]) h₃ := {
    base := (sub₂.trans s23).trans s34
    ns := hns₃
    led := fun p hp => by
      rcases List.mem_append.mp hp with hp | hp
      · obtain rfl := List.mem_singleton.mp hp; exact s34 _ _ (by first | walk_at "mem" | simp) gA
      · obtain rfl := List.mem_singleton.mp hp; exact s34 _ _ (by first | walk_at "mem" | simp) (s23 _ _ (by first | walk_at "mem" | simp) gI)
    own := fun p hp => by
      rcases List.mem_append.mp hp with hp | hp
      · obtain rfl := List.mem_singleton.mp hp; exact .inr (none1 nA)
      · obtain rfl := List.mem_singleton.mp hp; exact .inr nI
    nodup := by simp [hAI]
    offL := by simp [hAC.symm, hIC.symm]
    newL := none1 none2
    dl := by simp }
  have loop := body (compEnvC scope cl aC env) aA _ h₃ (cenv_ok e hkind) rfl rfl ⟨0, rfl⟩ H
  have post : ∀ s₄ : Shared, (∃ tk, 0 < tk ∧ s₄ = { s with heap := h₃, toks := tk }) → codeAny (model prog w) A (.compLoop (.ListComp elt (⟨target, iter, ifs, 0⟩ :: rest) scope pos) 0 (.ref I) (.ref aA) (compEnvC scope cl aC env)) (RR (.ref aA) aC) s₄ := by
    rintro s₄ ⟨tk4, hp4, rfl⟩
    refine codeAny_mono (loop _ rfl hp4) ?_
    rintro r s' ⟨h', tk, rfl, rfl, hp, z⟩
    exact z tk hp
  refine codeAny_compStart_list (post _ ⟨_, ht₂, rfl⟩) ?_
  refine wpAny_mono (TP.of (It.self h₃ oI H.base H.getEnd st0) _ rfl ht₂) ?_ fun _ _ z => z.elim
  rintro it' s₅ ⟨h₅, t₅, rfl, hp, rfl, rfl⟩
  exact post _ ⟨_, hp, rfl⟩
end
end Mine

end
section
open PySem PySem.W PyProof.Rows PySem.Calls
set_option Elab.async false
set_option linter.unusedVariables false
set_option maxRecDepth 100000
set_option maxHeartbeats 4000000
namespace Mine
local macro_rules | `(tactic| walk_at "np") => `(tactic| refine TP.of (T.Name (by assumption) (by assumption) (by walk_at "look") ?_ (Loc.of (by assumption) (by first | walk_at "mem" | simp)) (by decide +kernel)))
noncomputable def Cnt (kvs : List (Int × Value)) (xs : List Int) : Prop := ∀ k, (k ∈ xs → ∃ t, valueAt kvs k = some (.int (xs.count k : Nat) t)) ∧ (k ∉ xs → valueAt kvs k = none)
theorem Cnt.nil : Cnt [] [] := fun k => ⟨fun h => by simp at h, fun _ => rfl⟩
theorem Cnt.get {kvs : List (Int × Value)} {xs : List Int} (c : Cnt kvs xs) (k : Int) (t : Tok) : ∃ u, (valueAt kvs k).getD (.int 0 t) = .int (xs.count k : Nat) u := by
  by_cases h : k ∈ xs
  · obtain ⟨u, e⟩ := (c k).1 h
    exact ⟨u, by rw [e]; rfl⟩
  · exact ⟨t, by rw [(c k).2 h, List.count_eq_zero.mpr h]; rfl⟩
theorem Cnt.snoc {kvs : List (Int × Value)} {xs : List Int} (c : Cnt kvs xs) (x : Int) (t : Tok) : Cnt (stored kvs x (.int ((xs.count x : Nat) + 1) t)) (xs ++ [x]) := fun k => by
  rw [valueAt_stored]
  by_cases h : k = x
  · subst h
    refine ⟨fun _ => ⟨t, ?_⟩, fun q => absurd (by first | walk_at "mem" | simp) q⟩
    rw [if_pos rfl, List.count_append]
    simp
  · have h2 : ¬ x = k := fun q => h q.symm
    simp only [if_neg h, List.mem_append, List.mem_singleton, h, or_false, List.count_append]
    have : [x].count k = 0 := List.count_eq_zero.mpr (by simpa using h)
    rw [this, Nat.add_zero]
    exact c k
noncomputable def Avl (kvs : List (Int × Value)) (b xs : List Int) : Prop := ∀ k, (k ∈ xs → ∃ t, valueAt kvs k = some (.int ((b.count k : Int) - (xs.count k : Nat)) t)) ∧ (k ∉ xs → valueAt kvs k = none)
theorem Avl.snoc {kvs : List (Int × Value)} {b xs : List Int} (c : Avl kvs b xs) (x : Int) (t : Tok) : Avl (stored kvs x (.int (((b.count x : Int) - (xs.count x : Nat)) - 1) t)) b (xs ++ [x]) := fun k => by
  rw [valueAt_stored]
  by_cases h : k = x
  · subst h
    refine ⟨fun _ => ⟨t, ?_⟩, fun q => absurd (by first | walk_at "mem" | simp) q⟩
    rw [if_pos rfl, List.count_append]
    simp
    (first | lia | omega)
  · have h2 : ¬ x = k := fun q => h q.symm
    simp only [if_neg h, List.mem_append, List.mem_singleton, h, or_false, List.count_append]
    have : [x].count k = 0 := List.count_eq_zero.mpr (by simpa using h)
    rw [this, Nat.add_zero]
    exact c k
noncomputable def ifB : Stmt → List Stmt
  | .If _ b _ _ => b
  | _ => []
noncomputable def qrB : List Stmt := bodyN (stN (bodyN (stN pwBody 5)) 11)
noncomputable abbrev qrN : List Str := [(Str.ofString "self"), (Str.ofString "fullbcount"), (Str.ofString "elt"), (Str.ofString "avail"), (Str.ofString "availhas"), (Str.ofString "matches"), (Str.ofString "numb")]
inductive QF (prog : Program) (w : World) (d dx x : Addr) (od : Obj) (ms : List Int) (i : Nat) (m : Str → Option Value) (l : List (Addr × Obj)) : Prop
  | mk (o : Obj) (kvs : List (Int × Value)) (e : l = [(d, o), (dx, od)]) (hd : IsDic prog w o kvs) (c : Cnt kvs (ms.take i)) (z : kvs.length ≤ i) (n1 : m (Str.ofString "self") = some (.ref x)) (n2 : m (Str.ofString "fullbcount") = some (.ref d))
inductive QA (prog : Program) (w : World) (l₀ : List (Addr × Obj)) (da u d x : Addr) (ns ms : List Int) (i : Nat) (m : Str → Option Value) (l : List (Addr × Obj)) : Prop
  | mk (o : Obj) (kvs : List (Int × Value)) (t : Tok) (e : l = (da, o) :: (u, bnd "dict.__contains__" (.ref da)) :: l₀) (hd : IsDic prog w o kvs) (c : Avl kvs ms (ns.take i)) (z : kvs.length ≤ i) (n1 : m (Str.ofString "self") = some (.ref x)) (n2 : m (Str.ofString "fullbcount") = some (.ref d)) (n3 : m (Str.ofString "avail") = some (.ref da)) (n4 : m (Str.ofString "availhas") = some (.ref u))
      (n5 : m (Str.ofString "matches") = some (.int (qm ms [] (ns.take i) : Nat) t))
section
variable {prog : Program} {w : World} {A : Around} {h h' h₀ : Heap} {env : Env} {D : List Addr} {m : Str → Option Value} {l l₀ : List (Addr × Obj)}
theorem take_snoc {ms : List Int} {i : Nat} {n : Int} (e : ms[i]? = some n) : ms.take (i + 1) = ms.take i ++ [n] := by rw [List.take_add_one, e]; rfl
theorem qr_full {d dx x bx : Addr} {o od : Obj} {vs : List Value} {ms : List Int} {am : Str → Option Value} {Q : Flow → Heap → Prop} (e : EnvOk env) (hh : A.handled = none) (hL : Loc env qrN) (G : ∀ {m l h₂}, S h₀ D env.locals m l h₂ → Gr (frag w.params) h₂)
    (Hx : ∀ {m l h₂}, S h₀ D env.locals m l h₂ → h₂.get? x = some (instObj aSM dx)) (hbl : ∀ {m l h₂}, S h₀ D env.locals m l h₂ → h₂.IsList bx vs.toArray) (hi : IntsAre vs ms) (hz : ms.length < 100000) (ia : IsAttrs attrN od am) (hb : am (Str.ofString "b") = some (.ref bx)) (hD : ∀ q ∈ D, q = dx)
    (lo : (d == sysModules) = false) (hd : IsDic prog w o []) (n1 : m (Str.ofString "self") = some (.ref x)) (n2 : m (Str.ofString "fullbcount") = some (.ref d)) (H : S h₀ D env.locals m [(d, o), (dx, od)] h)
    (q : ∀ h' m' o' kvs, IsDic prog w o' kvs → Cnt kvs ms → m' (Str.ofString "self") = some (.ref x) → m' (Str.ofString "fullbcount") = some (.ref d) → S h₀ D env.locals m' [(d, o'), (dx, od)] h' → Q .next h') :
    T prog w A (exec (stN (ifB (stN qrB 1)) 1) env) h Q := by
  refine T.For (T.Attribute ?_)
  walk_at "nm"
  refine T.getAttr (plainSM w.params) (G H).k ⟨Hx H, H.get (by first | walk_at "mem" | simp)⟩ ia hb (attrFind _ (by delta attrN; walk_at "mem")) rfl ?_
  refine tf_list e hh (hL.of (by first | walk_at "mem" | simp)) H (QF prog w d dx x od ms) (fun i m l X q hq => by obtain ⟨o, kvs, rfl, _, _, _, _, _⟩ := X; rw [hD q hq]; simp) (fun i m l h _ H => hbl H) ⟨o, [], rfl, hd, by simpa using Cnt.nil, by simp, n1, n2⟩ ?_ ?_
  · rintro i v m₁ l₁ I oI h₁ hv ⟨o₁, kvs, rfl, hd₁, c₁, z₁, a1, a2⟩ H₁
    have hil : i < ms.length := by
      rcases Nat.lt_or_ge i vs.length with y | y
      · rw [← hi.length]; exact y
      · rw [List.getElem?_eq_none y] at hv; cases hv
    obtain ⟨t, ht⟩ := hi.get i ms[i] (by simp [hil])
    rw [hv] at ht
    obtain rfl := Option.some.inj ht
    have H₁' : S h₀ D env.locals _ ((d, o₁) :: (dx, od) :: [(I, oI)]) h₁ := H₁
    have g₁ : h₁.get? d = some o₁ := H₁.get (by first | walk_at "mem" | simp)
    refine T.execs_cons (t_Assign_Sub (T.BinOp (T.Call_method ?_)))
    walk_at "nm"
    refine t_getMethodB g₁ hd₁.cls.1 hd₁.cls.2 PySem.F.plainAttrs_dict PySem.F.slot_dict_get PySem.F.type_dict_get ?_
    refine T.callWith ?_ rfl
    walk_at "nm"
    refine T.cInt fun t1 => ⟨Keeps.builtin, ?_⟩
    refine t_dict_get g₁ hd₁ lo ?_
    obtain ⟨u, hu⟩ := c₁.get ms[i] t1
    rw [hu]
    refine T.cInt fun t2 => T.add fun t3 => ?_
    walk_at "nm"
    walk_at "nm"
    refine t_dict_set g₁ hd₁ (by rw [sizeLine_eq]; (first | lia | omega)) fun h₂ o₂ s₂ g₂ hd₂ => ?_
    have H₂ := H₁'.upd (o' := o₂) 0 (d := d) (o := o₁) rfl s₂ g₂
    refine T.execs_nil ⟨_, [(d, o₂), (dx, od)], ⟨o₂, _, rfl, hd₂, ?_, ?_, by walk_at "look", by walk_at "look"⟩, H₂⟩
    · rw [take_snoc (n := ms[i]) (by simp [hil])]
      exact c₁.snoc _ _
    · have := stored_length_le kvs ms[i] (.int ((((ms.take i).count ms[i] : Nat) : Int) + 1) t3)
      (first | lia | omega)
  · rintro m₁ l₁ h₁ ⟨o₁, kvs, rfl, hd₁, c₁, z₁, a1, a2⟩ H₁
    rw [hi.length, List.take_length] at c₁
    exact q h₁ m₁ o₁ kvs hd₁ c₁ a1 a2 H₁
theorem qr_loop {d da u dx x ax : Addr} {o₀ ob od : Obj} {vs : List Value} {ns ms : List Int} {kvb : List (Int × Value)} {am : Str → Option Value} {t₀ : Tok} {Q : Flow → Heap → Prop} (e : EnvOk env) (hh : A.handled = none) (hL : Loc env qrN) (G : ∀ {m l h₂}, S h₀ D env.locals m l h₂ → Gr (frag w.params) h₂)
    (Hx : ∀ {m l h₂}, S h₀ D env.locals m l h₂ → h₂.get? x = some (instObj aSM dx)) (hal : ∀ {m l h₂}, S h₀ D env.locals m l h₂ → h₂.IsList ax vs.toArray) (hi : IntsAre vs ns) (hz : ns.length < 100000) (ia : IsAttrs attrN od am) (ha : am (Str.ofString "a") = some (.ref ax)) (hD : ∀ q ∈ D, q ∈ l₀.map (·.1)) (hdx : (dx, od) ∈ l₀)
    (hdo : ∀ {m l h₂}, S h₀ D env.locals m (l ++ l₀) h₂ → h₂.get? d = some ob) (hdd : IsDic prog w ob kvb) (cb : Cnt kvb ms)
    (lo : (d == sysModules) = false) (loa : (da == sysModules) = false) (hd : IsDic prog w o₀ []) (n1 : m (Str.ofString "self") = some (.ref x)) (n2 : m (Str.ofString "fullbcount") = some (.ref d)) (n3 : m (Str.ofString "avail") = some (.ref da)) (n4 : m (Str.ofString "availhas") = some (.ref u)) (n5 : m (Str.ofString "matches") = some (.int 0 t₀))
    (H : S h₀ D env.locals m ((da, o₀) :: (u, bnd "dict.__contains__" (.ref da)) :: l₀) h)
    (q : ∀ h' m' l' t, m' (Str.ofString "self") = some (.ref x) → m' (Str.ofString "matches") = some (.int (qm ms [] ns : Nat) t) → S h₀ D env.locals m' (l' ++ l₀) h' → Q .next h') :
    T prog w A (exec (stN qrB 5) env) h Q := by
  refine T.For (T.Attribute ?_)
  walk_at "nm"
  refine T.getAttr (plainSM w.params) (G H).k ⟨Hx H, H.get (by simp [hdx])⟩ ia ha (attrFind _ (by delta attrN; walk_at "mem")) rfl ?_
  refine tf_list e hh (hL.of (by first | walk_at "mem" | simp)) H (QA prog w l₀ da u d x ns ms) (fun i m l X q hq => by obtain ⟨o, kvs, t, rfl, _, _, _, _, _, _, _, _⟩ := X; simpa using .inr (.inr (by simpa using hD q hq))) (fun i m l h _ H => hal H) ⟨o₀, [], t₀, rfl, hd, fun k => ⟨fun z => by simp at z, fun _ => rfl⟩, by simp, n1, n2, n3, n4, by simpa [qm] using n5⟩ ?_ ?_
  · rintro i v m₁ l₁ I oI h₁ hv ⟨o₁, kvs, t, rfl, hd₁, c₁, z₁, a1, a2, a3, a4, a5⟩ H₁
    have hil : i < ns.length := by
      rcases Nat.lt_or_ge i vs.length with y | y
      · rw [← hi.length]; exact y
      · rw [List.getElem?_eq_none y] at hv; cases hv
    obtain ⟨t', ht⟩ := hi.get i ns[i] (by simp [hil])
    rw [hv] at ht
    obtain rfl := Option.some.inj ht
    have g₁ : h₁.get? da = some o₁ := H₁.get (by first | walk_at "mem" | simp)
    have gu : h₁.get? u = some (bnd "dict.__contains__" (.ref da)) := H₁.get (by first | walk_at "mem" | simp)
    have H₁' : S h₀ D env.locals _ ((da, o₁) :: (u, bnd "dict.__contains__" (.ref da)) :: l₀ ++ [(I, oI)]) h₁ := H₁
    have e1 := take_snoc (ms := ns) (n := ns[i]) (i := i) (by simp [hil])
    have tail : ∀ {h₂ : Heap} {tn : Tok} {l₂ : List (Addr × Obj)} (H₂ : S h₀ D env.locals (upd (upd m₁ (Str.ofString "elt") (.int ns[i] t')) (Str.ofString "numb") (.int ((ms.count ns[i] : Int) - ((ns.take i).count ns[i] : Nat)) tn)) ((da, o₁) :: (u, bnd "dict.__contains__" (.ref da)) :: l₀ ++ [(I, oI)]) h₂),
        T prog w A (execs ((forBody (stN qrB 5)).drop 1) env) h₂ fun f h₃ => match f with
          | .next | .cont => ∃ m₂ l₂, QA prog w l₀ da u d x ns ms (i + 1) m₂ l₂ ∧ S h₀ D env.locals m₂ (l₂ ++ [(I, oI)]) h₃
          | .brk => Q .next h₃
          | .ret v => Q (.ret v) h₃ := by
      intro h₂ tn l₂ H₂
      have g₂ : h₂.get? da = some o₁ := H₂.get (by first | walk_at "mem" | simp)
      refine T.execs_cons (t_Assign_Sub (T.BinOp ?_))
      walk_at "nm"
      refine T.cInt fun t1 => T.sub fun t2 => ?_
      walk_at "nm"
      walk_at "nm"
      refine t_dict_set g₂ hd₁ (by rw [sizeLine_eq]; (first | lia | omega)) fun h₃ o₃ s₃ g₃ hd₃ => ?_
      have H₃ := H₂.upd (o' := o₃) 0 (d := da) (o := o₁) rfl s₃ g₃
      have H₃' : S h₀ D env.locals _ (((da, o₃) :: (u, bnd "dict.__contains__" (.ref da)) :: l₀) ++ [(I, oI)]) h₃ := H₃
      have c₃ := c₁.snoc ns[i] t2
      rw [← e1] at c₃
      have z₃ : (stored kvs ns[i] (.int (((ms.count ns[i] : Int) - ((ns.take i).count ns[i] : Nat)) - 1) t2)).length ≤ i + 1 := Nat.le_trans (stored_length_le _ _ _) (by (first | lia | omega))
      have eq := qm_snoc ms ns[i] (ns.take i) []
      rw [List.nil_append, ← e1] at eq
      refine T.execs_cons (T.If (T.isTrue_Compare ?_))
      walk_at "nm"
      refine T.cInt fun t3 => T.gt (T.truthy_bool ?_)
      by_cases c : (ns.take i).count ns[i] < ms.count ns[i]
      · rw [if_pos (by rw [decide_eq_true_eq]; (first | lia | omega))]
        refine T.execs_cons (T.Assign_Name (T.BinOp ?_))
        walk_at "nm"
        refine T.cInt fun t4 => T.add fun t5 => T.storeName e H₃' (fun h₄ H₄ => ?_) (hL.of (by first | walk_at "mem" | simp))
        refine T.execs_nil (T.execs_nil ⟨_, _, ⟨o₃, _, t5, rfl, hd₃, c₃, z₃, by walk_at "look", by walk_at "look", by walk_at "look", by walk_at "look", ?_⟩, H₄⟩)
        rw [eq, if_pos c]
        exact upd_here
      · rw [if_neg (by rw [decide_eq_true_eq]; (first | lia | omega))]
        refine T.execs_nil (T.execs_nil ⟨_, _, ⟨o₃, _, t, rfl, hd₃, c₃, z₃, by walk_at "look", by walk_at "look", by walk_at "look", by walk_at "look", ?_⟩, H₃'⟩)
        rw [eq, if_neg c, Nat.add_zero]
        walk_at "look"
    refine T.execs_cons (T.If (t_isTrue_plain (T.Call_Name ?_)))
    walk_at "nm"
    refine T.callWith ?_ rfl
    walk_at "nm"
    refine ⟨Keeps.bound gu rfl rfl, ?_⟩
    refine t_callHasD gu g₁ hd₁ loa (T.truthy_bool ?_)
    by_cases c : ns[i] ∈ ns.take i
    · obtain ⟨tn, hn⟩ := (c₁ ns[i]).1 c
      rw [if_pos (by rw [hn]; rfl)]
      refine T.execs_cons (T.Assign_Name (t_SubDict ?_))
      walk_at "nm"
      walk_at "nm"
      refine ⟨da, o₁, kvs, ns[i], t', _, rfl, rfl, g₁, hd₁, hn, ?_⟩
      refine T.storeName e H₁' (fun h₂ H₂ => T.execs_nil ?_) (hL.of (by first | walk_at "mem" | simp))
      exact tail (l₂ := []) H₂
    · rw [if_neg (by rw [(c₁ ns[i]).2 c]; simp)]
      refine T.execs_cons (T.Assign_Name (T.Call_method ?_))
      walk_at "nm"
      have gd : h₁.get? d = some ob := hdo (l := (da, o₁) :: (u, bnd "dict.__contains__" (.ref da)) :: [(I, oI)]) (H₁'.perm (by
        refine List.Perm.cons _ (List.Perm.cons _ ?_)
        exact List.perm_append_singleton _ _))
      refine t_getMethodB gd hdd.cls.1 hdd.cls.2 PySem.F.plainAttrs_dict PySem.F.slot_dict_get PySem.F.type_dict_get ?_
      refine T.callWith ?_ rfl
      walk_at "nm"
      refine T.cInt fun t1 => ⟨Keeps.builtin, ?_⟩
      refine t_dict_get gd hdd lo ?_
      obtain ⟨tn, hn⟩ := cb.get ns[i] t1
      rw [hn]
      refine T.storeName e H₁' (fun h₂ H₂ => T.execs_nil ?_) (hL.of (by first | walk_at "mem" | simp))
      have c0 : (ns.take i).count ns[i] = 0 := List.count_eq_zero.mpr c
      refine tail (tn := tn) (l₂ := []) ?_
      rw [c0]
      simpa using H₂
  · rintro m₁ l₁ h₁ ⟨o₁, kvs, t, rfl, hd₁, c₁, z₁, a1, a2, a3, a4, a5⟩ H₁
    rw [hi.length, List.take_length] at a5
    exact q h₁ m₁ [(da, o₁), (u, bnd "dict.__contains__" (.ref da))] t a1 a5 H₁
end
end Mine

end
local macro_rules | `(tactic| walk_at "np") => `(tactic| refine Mine.TP.of (Mine.T.Name (by assumption) (by assumption) (by walk_at "look") ?_ (Mine.Loc.of (by assumption) (by first | walk_at "mem" | simp)) (by decide +kernel)))
section
open PySem PySem.W PyProof.Rows PySem.Calls
set_option Elab.async false
set_option linter.unusedVariables false
set_option maxRecDepth 100000
set_option maxHeartbeats 4000000
namespace Mine
noncomputable abbrev Store := Addr → Obj → Prop
inductive PV
  | none
  | bool (b : Bool)
  | int (i : Int)
  | flt (x : UInt64)
  | str (s : Str)
  | list (xs : List PV)
  | rlist (xs : List PV)
  | tup (xs : List PV)
  | dict (ks : List Int) (xs : List PV)
  | rdict (ks : List Int) (xs : List PV)
  | raw (v : Value)
mutual
inductive Rep (prog : Program) (w : World) (F R : Store) : Value → PV → Prop
  | none : Rep prog w F R .none .none
  | bool (b : Bool) : Rep prog w F R (.bool b) (.bool b)
  | int (i : Int) (t : Tok) : Rep prog w F R (.int i t) (.int i)
  | flt (x : UInt64) (t : Tok) : t ≠ 0 → Rep prog w F R (.float x t) (.flt x)
  | str (s : Str) (t : Tok) : Rep prog w F R (.str s t) (.str s)
  | list {a : Addr} {o : Obj} {vs : List Value} {xs : List PV} : F a o → IsLst o vs → Reps prog w F R vs xs → Rep prog w F R (.ref a) (.list xs)
  | rlist {a : Addr} {o : Obj} {vs : List Value} {xs : List PV} : R a o → IsLst o vs → Reps prog w F R vs xs → Rep prog w F R (.ref a) (.rlist xs)
  | tup {a : Addr} {o : Obj} {vs : List Value} {xs : List PV} : F a o → IsTupO o vs → Reps prog w F R vs xs → Rep prog w F R (.ref a) (.tup xs)
  | dict {a : Addr} {o : Obj} {ks : List Int} {vs : List Value} {xs : List PV} : F a o → IsDic prog w o (ks.zip vs) → ks.length = vs.length → Reps prog w F R vs xs → Rep prog w F R (.ref a) (.dict ks xs)
  | rdict {a : Addr} {o : Obj} {ks : List Int} {vs : List Value} {xs : List PV} : R a o → IsDic prog w o (ks.zip vs) → ks.length = vs.length → Reps prog w F R vs xs → Rep prog w F R (.ref a) (.rdict ks xs)
  | raw (v : Value) : Rep prog w F R v (.raw v)
inductive Reps (prog : Program) (w : World) (F R : Store) : List Value → List PV → Prop
  | nil : Reps prog w F R [] []
  | cons {v : Value} {x : PV} {vs : List Value} {xs : List PV} : Rep prog w F R v x → Reps prog w F R vs xs → Reps prog w F R (v :: vs) (x :: xs)
end
inductive ORep (prog : Program) (w : World) (F R : Store) (o : Obj) : PV → Prop
  | list {vs : List Value} {xs : List PV} : IsLst o vs → Reps prog w F R vs xs → ORep prog w F R o (.list xs)
  | dict {ks : List Int} {vs : List Value} {xs : List PV} : IsDic prog w o (ks.zip vs) → ks.length = vs.length → Reps prog w F R vs xs → ORep prog w F R o (.dict ks xs)
mutual
noncomputable def Safe : PV → Prop
  | .list xs => Safes xs
  | .tup xs => Safes xs
  | .dict _ xs => Safes xs
  | .rlist _ => False
  | .rdict _ _ => False
  | _ => True
noncomputable def Safes : List PV → Prop
  | [] => True
  | x :: xs => Safe x ∧ Safes xs
end
section
variable {prog : Program} {w : World} {F R : Store} {v : Value} {vs : List Value}
theorem Rep.i {i : Int} (r : Rep prog w F R v (.int i)) : ∃ t, v = .int i t := by cases r; exact ⟨_, rfl⟩
theorem Rep.f {x : UInt64} (r : Rep prog w F R v (.flt x)) : ∃ t, v = .float x t ∧ t ≠ 0 := by cases r; exact ⟨_, rfl, ‹_›⟩
theorem Rep.r {u : Value} (r : Rep prog w F R v (.raw u)) : v = u := by cases r; rfl
theorem Rep.b {b : Bool} (r : Rep prog w F R v (.bool b)) : v = .bool b := by cases r; rfl
theorem Rep.l {xs : List PV} (r : Rep prog w F R v (.list xs)) : ∃ a o vs, v = .ref a ∧ F a o ∧ IsLst o vs ∧ Reps prog w F R vs xs := by cases r; exact ⟨_, _, _, rfl, ‹_›, ‹_›, ‹_›⟩
theorem Rep.n (r : Rep prog w F R v .none) : v = .none := by cases r; rfl
theorem Reps.c {x : PV} {xs : List PV} (r : Reps prog w F R (v :: vs) (x :: xs)) : Rep prog w F R v x ∧ Reps prog w F R vs xs := by cases r; exact ⟨‹_›, ‹_›⟩
theorem Reps.one {p : PV} (r : Reps prog w F R vs [p]) : ∃ v, vs = [v] ∧ Rep prog w F R v p := by
  cases r with | cons h1 h2 => cases h2; exact ⟨_, rfl, h1⟩
theorem Reps.two {p q : PV} (r : Reps prog w F R vs [p, q]) : ∃ v u, vs = [v, u] ∧ Rep prog w F R v p ∧ Rep prog w F R u q := by
  cases r with | cons h1 h2 => obtain ⟨_, rfl, h3⟩ := h2.one; exact ⟨_, _, rfl, h1, h3⟩
end
section
variable {prog : Program} {w : World} {F F' R R' : Store} {v : Value} {vs : List Value} {x : PV} {xs : List PV} {o : Obj}
mutual
theorem Rep.mono (hF : ∀ a o, F a o → F' a o) (hR : ∀ a o, R a o → R' a o) {v : Value} {x : PV} : Rep prog w F R v x → Rep prog w F' R' v x
  | .none => .none
  | .bool b => .bool b
  | .int i t => .int i t
  | .flt x t n => .flt x t n
  | .str s t => .str s t
  | .list h1 h2 h3 => .list (hF _ _ h1) h2 (Reps.mono hF hR h3)
  | .rlist h1 h2 h3 => .rlist (hR _ _ h1) h2 (Reps.mono hF hR h3)
  | .tup h1 h2 h3 => .tup (hF _ _ h1) h2 (Reps.mono hF hR h3)
  | .dict h1 h2 h3 h4 => .dict (hF _ _ h1) h2 h3 (Reps.mono hF hR h4)
  | .rdict h1 h2 h3 h4 => .rdict (hR _ _ h1) h2 h3 (Reps.mono hF hR h4)
  | .raw v => .raw v
theorem Reps.mono (hF : ∀ a o, F a o → F' a o) (hR : ∀ a o, R a o → R' a o) {vs : List Value} {xs : List PV} : Reps prog w F R vs xs → Reps prog w F' R' vs xs
  | .nil => .nil
  | .cons h1 h2 => .cons (Rep.mono hF hR h1) (Reps.mono hF hR h2)
end
mutual
theorem Rep.safe {v : Value} {x : PV} : Rep prog w F R v x → Safe x → Rep prog w F R' v x
  | .none, _ => .none
  | .bool b, _ => .bool b
  | .int i t, _ => .int i t
  | .flt x t n, _ => .flt x t n
  | .str s t, _ => .str s t
  | .list h1 h2 h3, s => .list h1 h2 (Reps.safe h3 s)
  | .rlist h1 h2 h3, s => s.elim
  | .tup h1 h2 h3, s => .tup h1 h2 (Reps.safe h3 s)
  | .dict h1 h2 h3 h4, s => .dict h1 h2 h3 (Reps.safe h4 s)
  | .rdict h1 h2 h3 h4, s => s.elim
  | .raw v, _ => .raw v
theorem Reps.safe {vs : List Value} {xs : List PV} : Reps prog w F R vs xs → Safes xs → Reps prog w F R' vs xs
  | .nil, _ => .nil
  | .cons h1 h2, s => .cons (Rep.safe h1 s.1) (Reps.safe h2 s.2)
end
theorem ORep.mono (hF : ∀ a o, F a o → F' a o) (hR : ∀ a o, R a o → R' a o) {x : PV} : ORep prog w F R o x → ORep prog w F' R' o x
  | .list h1 h2 => .list h1 (h2.mono hF hR)
  | .dict h1 h2 h3 => .dict h1 h2 (h3.mono hF hR)
theorem ORep.safe {x : PV} : ORep prog w F R o x → Safe x → ORep prog w F R' o x
  | .list h1 h2, s => .list h1 (h2.safe s)
  | .dict h1 h2 h3, s => .dict h1 h2 (h3.safe s)
theorem Reps.length (h : Reps prog w F R vs xs) : vs.length = xs.length := by
  induction vs generalizing xs with
  | nil => cases h; rfl
  | cons v vs ih => cases h with | cons h1 h2 => simp [ih h2]
theorem Reps.get (h : Reps prog w F R vs xs) {i : Nat} {x : PV} (hx : xs[i]? = some x) : ∃ v, vs[i]? = some v ∧ Rep prog w F R v x := by
  induction vs generalizing xs i with
  | nil => cases h; simp at hx
  | cons v vs ih =>
    cases h with
    | cons h1 h2 =>
      cases i with
      | zero => simp at hx; subst hx; exact ⟨v, rfl, h1⟩
      | succ i => exact ih h2 (by simpa using hx)
theorem Reps.append {us : List Value} {ys : List PV} (h : Reps prog w F R vs xs) (h' : Reps prog w F R us ys) : Reps prog w F R (vs ++ us) (xs ++ ys) := by
  induction vs generalizing xs with
  | nil => cases h; exact h'
  | cons v vs ih => cases h with | cons h1 h2 => exact .cons h1 (ih h2)
theorem Reps.take (h : Reps prog w F R vs xs) : ∀ n, Reps prog w F R (vs.take n) (xs.take n) := by
  induction vs generalizing xs with
  | nil => intro n; cases h; simp; exact .nil
  | cons v vs ih => intro n; cases h with | cons h1 h2 => cases n with
    | zero => exact .nil
    | succ n => exact .cons h1 (ih h2 n)
theorem Reps.drop (h : Reps prog w F R vs xs) : ∀ n, Reps prog w F R (vs.drop n) (xs.drop n) := by
  induction vs generalizing xs with
  | nil => intro n; cases h; simp; exact .nil
  | cons v vs ih => intro n; cases h with | cons h1 h2 => cases n with
    | zero => exact .cons h1 h2
    | succ n => exact ih h2 n
theorem Reps.ints : ∀ {vs : List Value} {ns : List Int}, IntsAre vs ns → Reps prog w F R vs (ns.map .int)
  | _, _, .nil => .nil
  | _, _, .cons n t r => .cons (.int n t) (Reps.ints r)
theorem Reps.toInts : ∀ {vs : List Value} {ns : List Int}, Reps prog w F R vs (ns.map .int) → IntsAre vs ns
  | [], [], _ => .nil
  | [], _ :: _, h => by cases h
  | _ :: _, [], h => by cases h
  | v :: vs, n :: ns, h => by
    obtain ⟨h1, h2⟩ := Reps.c h
    obtain ⟨t, rfl⟩ := h1.i
    exact .cons n t (Reps.toInts h2)
theorem Safes.ints : ∀ (ns : List Int), Safes (ns.map .int)
  | [] => by simp [Safes]
  | n :: ns => by rw [List.map_cons, Safes]; exact ⟨by simp [Safe], Safes.ints ns⟩
theorem Safes.all (h : ∀ x ∈ xs, Safe x) : Safes xs := by
  induction xs with
  | nil => simp [Safes]
  | cons x xs ih => rw [Safes]; exact ⟨h x (.head _), ih fun y hy => h y (.tail _ hy)⟩
theorem Safes.of (h : Safes xs) : ∀ x ∈ xs, Safe x := by
  induction xs with
  | nil => simp
  | cons y ys ih =>
    rw [Safes] at h
    intro x hx
    rcases List.mem_cons.mp hx with rfl | hx
    · exact h.1
    · exact ih h.2 x hx
end

structure Fm where
  prog : Program
  w : World
  A : Around
  env : Env
  h₀ : Heap
  D : List Addr
  F₀ : Store
  XR : Store
  K : Frag
  rd : Nat
structure FmOk (X : Fm) : Prop where
  e : EnvOk X.env
  hh : X.A.handled = none
  gr : ∀ h, Sub X.D X.h₀ h → Gr X.K h
  f0 : ∀ a o, X.F₀ a o → X.h₀.get? a = some o ∧ a ∉ X.D
  xr : ∀ a o, X.XR a o → X.h₀.get? a = some o ∧ a ∉ X.D
  cinj : ∀ x y c, X.env.cells.lookup x = some c → X.env.cells.lookup y = some c → x = y
  room : X.A.depth + 20 + X.rd < recursionLimit
  units : X.A.units + 20 + 10 * X.rd < cLine

noncomputable def iterNames : List String := ["list_iterator", "range_iterator", "tuple_iterator", "str_ascii_iterator", "str_iterator", "dict_keyiterator", "enumerate"]
noncomputable def NoVal (o : Obj) : Prop := (∃ n ∈ iterNames, o.cls = .type n) ∧ ∀ v, o.data ≠ .cell v
theorem NoVal.ne {o : Obj} (n : NoVal o) {c : String} (e : o.cls = .type c) (h : c ∉ iterNames) : False := by
  obtain ⟨⟨d, hd, e'⟩, _⟩ := n
  rw [e] at e'; cases e'; exact h hd
inductive Bind
  | fz (x : PV)
  | own (a : Addr) (x : PV)
  | mat (d C : Addr) (P : Store → Obj → Prop)
  | nest (as : List Addr) (xss : List (List PV))
noncomputable def Bind.addrs : Bind → List Addr
  | .fz _ => []
  | .own a _ => [a]
  | .mat d _ _ => [d]
  | .nest as _ => as
inductive Nest (prog : Program) (w : World) (F R : Store) (l : List (Addr × Obj)) : List Addr → List (List PV) → Prop
  | nil : Nest prog w F R l [] []
  | cons {a : Addr} {o : Obj} {vs : List Value} {xs : List PV} {as : List Addr} {xss : List (List PV)} : (a, o) ∈ l → IsLst o vs → Reps prog w F R vs xs → Nest prog w F R l as xss → Nest prog w F R l (a :: as) (xs :: xss)
theorem Nest.mono {prog : Program} {w : World} {F F' R R' : Store} {l l' : List (Addr × Obj)} (hF : ∀ a o, F a o → F' a o) (hR : ∀ a o, R a o → R' a o) {as : List Addr} {xss : List (List PV)} (x : Nest prog w F R l as xss) : (∀ a o, a ∈ as → (a, o) ∈ l → (a, o) ∈ l') → Nest prog w F' R' l' as xss := by
  induction x with
  | nil => exact fun _ => .nil
  | cons h1 h2 h3 _ ih => exact fun hl => .cons (hl _ _ (.head _) h1) h2 (h3.mono hF hR) (ih fun a o ha => hl a o (.tail _ ha))
theorem Nest.mem {prog : Program} {w : World} {F R : Store} {l : List (Addr × Obj)} {as : List Addr} {xss : List (List PV)} (x : Nest prog w F R l as xss) {a : Addr} (ha : a ∈ as) : ∃ o, (a, o) ∈ l ∧ ∃ vs, IsLst o vs := by
  induction x with
  | nil => cases ha
  | cons h1 h2 h3 _ ih =>
    rcases List.mem_cons.mp ha with rfl | ha
    · exact ⟨_, h1, _, h2⟩
    · exact ih ha
noncomputable abbrev Ctx := List (Str × Bind)
noncomputable def Look (X : Fm) (m : Str → Option Value) (l : List (Addr × Obj)) (x : Str) (v : Value) : Prop :=
  (X.env.kindOf x = some .local ∧ m x = some v) ∨ ∃ c o, X.env.kindOf x = some .cell ∧ X.env.cells.lookup x = some c ∧ ((c, o) ∈ l ∨ X.XR c o) ∧ IsCel o (some v)
noncomputable def BindOk (X : Fm) (F : Store) (l : List (Addr × Obj)) (v : Value) : Bind → Prop
  | .fz x => Rep X.prog X.w F X.XR v x
  | .own a x => ∃ o, v = .ref a ∧ (a, o) ∈ l ∧ ORep X.prog X.w F X.XR o x
  | .mat d C P => ∃ x od, v = .ref x ∧ F x (instObj C d) ∧ (d, od) ∈ l ∧ (∃ es n, od = dictOf es n) ∧ ∀ F', (∀ a o, F a o → ¬ NoVal o → F' a o) → P F' od
  | .nest as xss => ∃ a o, v = .ref a ∧ F a o ∧ IsLst o (as.map .ref) ∧ as.Nodup ∧ Nest X.prog X.w F X.XR l as xss
theorem BindOk.mono {X : Fm} {F F' : Store} {l l' : List (Addr × Obj)} {v : Value} {b : Bind} (le : ∀ a o, F a o → F' a o) (hl : ∀ a o, a ∈ b.addrs → (a, o) ∈ l → (a, o) ∈ l') (x : BindOk X F l v b) : BindOk X F' l' v b := by
  cases b with
  | fz p => exact Rep.mono le (fun _ _ e => e) x
  | own a p =>
    obtain ⟨o, h1, h2, h3⟩ := x
    exact ⟨o, h1, hl a o (.head _) h2, h3.mono le fun _ _ e => e⟩
  | mat d C P =>
    obtain ⟨x, od, h1, h2, h3, h4, h5⟩ := x
    exact ⟨x, od, h1, le _ _ h2, hl d od (.head _) h3, h4, fun F2 q => h5 F2 fun a o e n => q a o (le a o e) n⟩
  | nest as xss =>
    obtain ⟨a, o, h1, h2, h3, h4, h5⟩ := x
    exact ⟨a, o, h1, le _ _ h2, h3, h4, h5.mono le (fun _ _ e => e) hl⟩
theorem BindOk.mem {X : Fm} {F : Store} {l : List (Addr × Obj)} {v : Value} {b : Bind} {a : Addr} (x : BindOk X F l v b) (e : a ∈ b.addrs) : ∃ o, (a, o) ∈ l ∧ ∀ u, o.data ≠ .cell u := by
  cases b with
  | fz p => cases e
  | nest as xss =>
    obtain ⟨a', o, h1, h2, h3, h4, h5⟩ := x
    obtain ⟨o, m, vs, n, rfl⟩ := h5.mem e
    exact ⟨_, m, fun u hu => by cases hu⟩
  | own a' p =>
    obtain rfl : a = a' := by simpa [Bind.addrs] using e
    obtain ⟨o, h1, h2, h3⟩ := x
    refine ⟨o, h2, fun u hu => ?_⟩
    cases h3 with
    | list h1 h2 => obtain ⟨n, rfl⟩ := h1; cases hu
    | dict h1 h2 h3 =>
      obtain ⟨es, n, _, e, _⟩ := h1
      rw [e] at hu; cases hu
  | mat d C P =>
    obtain rfl : a = d := by simpa [Bind.addrs] using e
    obtain ⟨x, od, h1, h2, h3, ⟨es, n, rfl⟩, h5⟩ := x
    exact ⟨_, h3, fun u hu => by cases hu⟩
structure Holds (X : Fm) (Γ : Ctx) (F : Store) (m : Str → Option Value) (l : List (Addr × Obj)) (h : Heap) : Prop where
  s : S X.h₀ X.D X.env.locals m l h
  fz : ∀ a o, F a o → h.get? a = some o ∧ a ≠ X.env.locals ∧ a ∉ l.map (·.1)
  fn : ∀ a o, F a o → X.F₀ a o ∨ X.h₀.get? a = none
  f0 : ∀ a o, X.F₀ a o → F a o
  nm : ∀ x b, Γ.lookup x = some b → ∃ v, Look X m l x v ∧ BindOk X F l v b
  inj : ∀ x y b c a, Γ.lookup x = some b → Γ.lookup y = some c → a ∈ b.addrs → a ∈ c.addrs → x = y
  cel : ∀ x c, X.env.cells.lookup x = some c → X.h₀.get? c = none → ∃ o v, (c, o) ∈ l ∧ IsCel o v
noncomputable def RS (X : Fm) (l : List (Addr × Obj)) : Store := fun a o => X.XR a o ∨ (a, o) ∈ l
section
variable {X : Fm} {Γ Γ' : Ctx} {F F' : Store} {m : Str → Option Value} {l : List (Addr × Obj)} {h h' : Heap}
theorem Holds.sub (H : Holds X Γ F m l h) (s : Sub [] h h') : Holds X Γ F m l h' where
  s := H.s.sub s
  fz := fun a o e => ⟨s _ _ (by first | walk_at "mem" | simp) (H.fz a o e).1, (H.fz a o e).2⟩
  fn := H.fn
  f0 := H.f0
  nm := H.nm
  inj := H.inj
  cel := H.cel
theorem Holds.gr (ok : FmOk X) (H : Holds X Γ F m l h) : Gr X.K h := ok.gr h H.s.base
theorem Holds.xr (ok : FmOk X) (H : Holds X Γ F m l h) {a : Addr} {o : Obj} (e : X.XR a o) : h.get? a = some o := H.s.base a o (ok.xr a o e).2 (ok.xr a o e).1
theorem Holds.rs (ok : FmOk X) (H : Holds X Γ F m l h) {a : Addr} {o : Obj} (e : RS X l a o) : h.get? a = some o := e.elim (H.xr ok) (H.s.led (a, o))
theorem Rep.toRS {F : Store} {v : Value} {x : PV} (r : Rep X.prog X.w F X.XR v x) : Rep X.prog X.w F (RS X l) v x := r.mono (fun _ _ e => e) fun _ _ e => .inl e
noncomputable def Store.add (F : Store) (a : Addr) (o : Obj) : Store := fun b p => F b p ∨ (b = a ∧ p = o)
theorem Holds.freeze (H : Holds X Γ F m l h) (s : Sub [] h h') {a : Addr} {o : Obj} (hn : h.get? a = none) (ho : h'.get? a = some o) : Holds X Γ (F.add a o) m l h' := by
  have H' := H.sub s
  obtain ⟨f1, f2, f3⟩ := H.s.fresh hn
  exact { s := H'.s
          fz := fun b p e => e.elim (H'.fz b p) fun e => by obtain ⟨rfl, rfl⟩ := e; exact ⟨ho, f2, f3⟩
          fn := fun b p e => e.elim (H'.fn b p) fun e => by obtain ⟨rfl, rfl⟩ := e; exact .inr f1
          f0 := fun b p e => .inl (H.f0 b p e)
          nm := fun x b e => by
            obtain ⟨v, lk, bo⟩ := H.nm x b e
            exact ⟨v, lk, bo.mono (fun _ _ e => .inl e) fun _ _ _ e => e⟩
          inj := H.inj
          cel := H.cel }
theorem Holds.weak (H : Holds X Γ F m l h) (hs : ∀ x b, Γ'.lookup x = some b → Γ.lookup x = some b) : Holds X Γ' F m l h := { H with nm := fun x b e => H.nm x b (hs x b e), inj := fun x y b c a e1 e2 => H.inj x y b c a (hs _ _ e1) (hs _ _ e2) }

structure Fresh (X : Fm) (F : Store) (l : List (Addr × Obj)) (a : Addr) : Prop where
  new : X.h₀.get? a = none
  offL : a ≠ X.env.locals
  offl : a ∉ l.map (·.1)
  offF : ∀ o, ¬ F a o
theorem Holds.fresh (H : Holds X Γ F m l h) {a : Addr} (hn : h.get? a = none) : Fresh X F l a :=
  ⟨(H.s.fresh hn).1, (H.s.fresh hn).2.1, (H.s.fresh hn).2.2, fun o e => by rw [(H.fz a o e).1] at hn; cases hn⟩
noncomputable def E (X : Fm) (Γ : Ctx) (e : PySem.Expr) (x : PV) : Prop := ∀ F m l h, Holds X Γ F m l h → TP X.prog X.w X.A (eval e X.env) h fun v h' => ∃ F', (∀ a o, F a o → F' a o) ∧ Holds X Γ F' m l h' ∧ Rep X.prog X.w F' (RS X l) v x
noncomputable def N (X : Fm) (Γ : Ctx) (e : PySem.Expr) (x : PV) : Prop := ∀ F m l h, Holds X Γ F m l h → TP X.prog X.w X.A (eval e X.env) h fun v h' => ∃ F' a o, (∀ a o, F a o → F' a o) ∧ Holds X Γ F' m l h' ∧ v = .ref a ∧ h'.get? a = some o ∧ Fresh X F' l a ∧ ORep X.prog X.w F' (RS X l) o x
noncomputable def B (X : Fm) (Γ : Ctx) (e : PySem.Expr) (b : Bool) : Prop := ∀ F m l h, Holds X Γ F m l h → TP X.prog X.w X.A (isTrue e X.env (eval e X.env)) h fun c h' => ∃ F', (∀ a o, F a o → F' a o) ∧ Holds X Γ F' m l h' ∧ c = b
theorem Holds.lay (H : Holds X Γ F m l h) {a : Addr} {o : Obj} (fr : Fresh X F l a) (ho : h.get? a = some o) : Holds X Γ (F.add a o) m l h :=
  { s := H.s
    fz := fun b p e => e.elim (H.fz b p) fun e => by obtain ⟨rfl, rfl⟩ := e; exact ⟨ho, fr.offL, fr.offl⟩
    fn := fun b p e => e.elim (H.fn b p) fun e => by obtain ⟨rfl, rfl⟩ := e; exact .inr fr.new
    f0 := fun b p e => .inl (H.f0 b p e)
    nm := fun x b e => by
      obtain ⟨v, lk, bo⟩ := H.nm x b e
      exact ⟨v, lk, bo.mono (fun _ _ e => .inl e) fun _ _ _ e => e⟩
    inj := H.inj
    cel := H.cel }
theorem E.ofN {e : PySem.Expr} {x : PV} (n : N X Γ e x) : E X Γ e x := fun F m l h H => (n F m l h H).mono fun v h' ⟨F', a, o, le, H', hv, ho, fr, oR⟩ => by
  subst hv
  refine ⟨F'.add a o, fun b p e => .inl (le b p e), H'.lay fr ho, ?_⟩
  cases oR with
  | list h1 h2 => exact .list (.inr ⟨rfl, rfl⟩) h1 (h2.mono (fun _ _ e => .inl e) fun _ _ e => e)
  | dict h1 h2 h3 => exact .dict (.inr ⟨rfl, rfl⟩) h1 h2 (h3.mono (fun _ _ e => .inl e) fun _ _ e => e)
theorem E.eq {e : PySem.Expr} {x y : PV} (q : x = y) (t : E X Γ e x) : E X Γ e y := q ▸ t
theorem N.eq {e : PySem.Expr} {x y : PV} (q : x = y) (t : N X Γ e x) : N X Γ e y := q ▸ t
theorem B.eq {e : PySem.Expr} {x y : Bool} (q : x = y) (t : B X Γ e x) : B X Γ e y := q ▸ t
theorem look_eval (ok : FmOk X) (H : Holds X Γ F m l h) {x : Str} {v : Value} (lk : Look X m l x v) {pos : Pos} {Q : Value → Heap → Prop} (hd : (x == ("__debug__" : Str)) = false) (q : Q v h) : TP X.prog X.w X.A (eval (.Name x pos) X.env) h Q := by
  rcases lk with ⟨k, hm⟩ | ⟨c, o, k, hc, ho, hv⟩
  · exact TP.of <| T.Name ok.e H.s hm q k hd
  · refine TP.of (t_NameC ok.e k hc (o := o) ?_ hv q hd)
    exact ho.elim (H.s.led (c, o)) (H.xr ok)
theorem E.name (ok : FmOk X) {x : Str} {p : PV} {pos : Pos} (hx : Γ.lookup x = some (.fz p)) (hd : (x == ("__debug__" : Str)) = false) : E X Γ (.Name x pos) p := fun F m l h H => by
  obtain ⟨v, lk, bo⟩ := H.nm x _ hx
  exact look_eval ok H lk hd ⟨F, fun _ _ e => e, H, Rep.toRS bo⟩
noncomputable def rd : PV → PV
  | .list xs => .rlist xs
  | .dict ks xs => .rdict ks xs
  | x => x
theorem E.nameO (ok : FmOk X) {x : Str} {a : Addr} {p : PV} {pos : Pos} (hx : Γ.lookup x = some (.own a p)) (hd : (x == ("__debug__" : Str)) = false) : E X Γ (.Name x pos) (rd p) := fun F m l h H => by
  obtain ⟨v, lk, o, rfl, hl, oR⟩ := H.nm x _ hx
  refine look_eval ok H lk hd ⟨F, fun _ _ e => e, H, ?_⟩
  cases oR with
  | list h1 h2 => exact .rlist (.inr hl) h1 (h2.mono (fun _ _ e => e) fun _ _ e => .inl e)
  | dict h1 h2 h3 => exact .rdict (.inr hl) h1 h2 (h3.mono (fun _ _ e => e) fun _ _ e => .inl e)
theorem E.nameL (ok : FmOk X) {x : Str} {a : Addr} {xs : List PV} {pos : Pos} (hx : Γ.lookup x = some (.own a (.list xs))) (hd : (x == ("__debug__" : Str)) = false) : E X Γ (.Name x pos) (.rlist xs) := E.nameO ok hx hd
theorem E.global (ok : FmOk X) {x : Str} {v : Value} {pos : Pos} (hv : nsIn X.K mainGlobals x = some (some v)) (hl : X.env.kindOf x = some .globalImplicit) (hd : (x == ("__debug__" : Str)) = false) : E X Γ (.Name x pos) (.raw v) := fun F m l h H =>
  TP.of <| T.global ok.e (H.gr ok) hv ⟨F, fun _ _ e => e, H, .raw v⟩ hl hd
theorem E.builtin (ok : FmOk X) {x : Str} {v : Value} {pos : Pos} (hn : nsIn X.K mainGlobals x = some none) (hv : bootBuiltins x = some v) (hl : X.env.kindOf x = some .globalImplicit) (hd : (x == ("__debug__" : Str)) = false) (hx : x ≠ "__name__") : E X Γ (.Name x pos) (.raw v) := fun F m l h H =>
  TP.of <| T.builtin ok.e (H.gr ok) hn hv ⟨F, fun _ _ e => e, H, .raw v⟩ hl hd hx
theorem E.cInt {i : Int} {k : Nat} {pos : Pos} : E X Γ (.Constant (.int i) k pos) (.int i) := fun F m l h H => TP.of <| T.cInt fun t => ⟨F, fun _ _ e => e, H, .int i t⟩
theorem E.cBool {b : Bool} {k : Nat} {pos : Pos} : E X Γ (.Constant (.bool b) k pos) (.bool b) := fun F m l h H => TP.of <| T.cBool ⟨F, fun _ _ e => e, H, .bool b⟩
theorem E.bin {a b : PySem.Expr} {op : Operator} {pos : Pos} {x y z : PV} (ea : E X Γ a x) (eb : E X Γ b y)
    (k : ∀ F m l h u v, Holds X Γ F m l h → Rep X.prog X.w F (RS X l) u x → Rep X.prog X.w F (RS X l) v y → TP X.prog X.w X.A (binaryOp op u v) h fun r h' => ∃ F', (∀ a o, F a o → F' a o) ∧ Holds X Γ F' m l h' ∧ Rep X.prog X.w F' (RS X l) r z) : E X Γ (.BinOp a op b pos) z := fun F m l h H =>
  TP.BinOp ((ea F m l h H).mono fun u h₁ ⟨F₁, le₁, H₁, r₁⟩ => (eb F₁ m l h₁ H₁).mono fun v h₂ ⟨F₂, le₂, H₂, r₂⟩ =>
    (k F₂ m l h₂ u v H₂ (r₁.mono le₂ fun _ _ e => e) r₂).mono fun r h₃ ⟨F₃, le₃, H₃, r₃⟩ => ⟨F₃, fun a o e => le₃ a o (le₂ a o (le₁ a o e)), H₃, r₃⟩)
theorem E.add {a b : PySem.Expr} {pos : Pos} {i j : Int} (ea : E X Γ a (.int i)) (eb : E X Γ b (.int j)) : E X Γ (.BinOp a .Add b pos) (.int (i + j)) := E.bin ea eb fun F m l h u v H ru rv => by
  obtain ⟨t₁, rfl⟩ := ru.i; obtain ⟨t₂, rfl⟩ := rv.i; exact TP.of <| T.add fun t => ⟨F, fun _ _ e => e, H, .int _ t⟩
theorem E.sub {a b : PySem.Expr} {pos : Pos} {i j : Int} (ea : E X Γ a (.int i)) (eb : E X Γ b (.int j)) : E X Γ (.BinOp a .Sub b pos) (.int (i - j)) := E.bin ea eb fun F m l h u v H ru rv => by
  obtain ⟨t₁, rfl⟩ := ru.i; obtain ⟨t₂, rfl⟩ := rv.i; exact TP.of <| T.sub fun t => ⟨F, fun _ _ e => e, H, .int _ t⟩
theorem E.mod {a b : PySem.Expr} {pos : Pos} {i j : Int} (ea : E X Γ a (.int i)) (eb : E X Γ b (.int j)) (hj : j ≠ 0) : E X Γ (.BinOp a .Mod b pos) (.int (i.fmod j)) := E.bin ea eb fun F m l h u v H ru rv => by
  obtain ⟨t₁, rfl⟩ := ru.i; obtain ⟨t₂, rfl⟩ := rv.i; exact TP.of <| T.mod hj fun t => ⟨F, fun _ _ e => e, H, .int _ t⟩
theorem E.fdiv {a b : PySem.Expr} {pos : Pos} {i j : Int} (ea : E X Γ a (.int i)) (eb : E X Γ b (.int j)) (hj : j ≠ 0) (hs : j.natAbs < 1073741824) : E X Γ (.BinOp a .FloorDiv b pos) (.int (i.fdiv j)) := E.bin ea eb fun F m l h u v H ru rv => by
  obtain ⟨t₁, rfl⟩ := ru.i; obtain ⟨t₂, rfl⟩ := rv.i; exact TP.of <| T.fdiv hj hs fun t => ⟨F, fun _ _ e => e, H, .int _ t⟩
theorem E.cmp {a b : PySem.Expr} {op : CmpOp} {pos : Pos} {x y z : PV} (ea : E X Γ a x) (eb : E X Γ b y)
    (k : ∀ F m l h u v, Holds X Γ F m l h → Rep X.prog X.w F (RS X l) u x → Rep X.prog X.w F (RS X l) v y → TP X.prog X.w X.A (compareOp op u v) h fun r h' => ∃ F', (∀ a o, F a o → F' a o) ∧ Holds X Γ F' m l h' ∧ Rep X.prog X.w F' (RS X l) r z)
    (hm : behindInMarks op b = false := by with_unfolding_all rfl) : E X Γ (.Compare a [op] [b] pos) z := fun F m l h H =>
  TP.Compare ((ea F m l h H).mono fun u h₁ ⟨F₁, le₁, H₁, r₁⟩ => (eb F₁ m l h₁ H₁).mono fun v h₂ ⟨F₂, le₂, H₂, r₂⟩ =>
    (k F₂ m l h₂ u v H₂ (r₁.mono le₂ fun _ _ e => e) r₂).mono fun r h₃ ⟨F₃, le₃, H₃, r₃⟩ => ⟨F₃, fun a o e => le₃ a o (le₂ a o (le₁ a o e)), H₃, r₃⟩) hm
theorem B.cmp {a b : PySem.Expr} {op : CmpOp} {pos : Pos} {x y : PV} {c : Bool} (ea : E X Γ a x) (eb : E X Γ b y)
    (k : ∀ F m l h u v, Holds X Γ F m l h → Rep X.prog X.w F (RS X l) u x → Rep X.prog X.w F (RS X l) v y → TP X.prog X.w X.A (compareOp op u v) h fun r h' => ∃ F', (∀ a o, F a o → F' a o) ∧ Holds X Γ F' m l h' ∧ Rep X.prog X.w F' (RS X l) r (.bool c))
    (hm : behindInMarks op b = false := by with_unfolding_all rfl) : B X Γ (.Compare a [op] [b] pos) c := fun F m l h H =>
  TP.isTrue_Compare ((ea F m l h H).mono fun u h₁ ⟨F₁, le₁, H₁, r₁⟩ => (eb F₁ m l h₁ H₁).mono fun v h₂ ⟨F₂, le₂, H₂, r₂⟩ =>
    (k F₂ m l h₂ u v H₂ (r₁.mono le₂ fun _ _ e => e) r₂).mono fun r h₃ ⟨F₃, le₃, H₃, r₃⟩ => by
      obtain rfl := r₃.b
      exact TP.of <| T.truthy_bool ⟨F₃, fun a o e => le₃ a o (le₂ a o (le₁ a o e)), H₃, rfl⟩) hm
noncomputable def Cmp (X : Fm) (op : CmpOp) (x y : PV) (c : Bool) : Prop := ∀ Γ F m l h u v, Holds X Γ F m l h → Rep X.prog X.w F (RS X l) u x → Rep X.prog X.w F (RS X l) v y → TP X.prog X.w X.A (compareOp op u v) h fun r h' => ∃ F', (∀ a o, F a o → F' a o) ∧ Holds X Γ F' m l h' ∧ Rep X.prog X.w F' (RS X l) r (.bool c)
theorem Cmp.gt {i j : Int} : Cmp X .Gt (.int i) (.int j) (decide (j < i)) := fun Γ F m l h u v H ru rv => by obtain ⟨t₁, rfl⟩ := ru.i; obtain ⟨t₂, rfl⟩ := rv.i; exact TP.of <| T.gt ⟨F, fun _ _ e => e, H, .bool _⟩
theorem Cmp.ge {i j : Int} : Cmp X .GtE (.int i) (.int j) (decide (j ≤ i)) := fun Γ F m l h u v H ru rv => by obtain ⟨t₁, rfl⟩ := ru.i; obtain ⟨t₂, rfl⟩ := rv.i; exact TP.of <| T.ge ⟨F, fun _ _ e => e, H, .bool _⟩
theorem E.compare {a b : PySem.Expr} {op : CmpOp} {pos : Pos} {x y : PV} {c : Bool} (ea : E X Γ a x) (eb : E X Γ b y) (k : Cmp X op x y c) (hm : behindInMarks op b = false := by with_unfolding_all rfl) : E X Γ (.Compare a [op] [b] pos) (.bool c) := E.cmp ea eb (k Γ) hm
theorem B.compare {a b : PySem.Expr} {op : CmpOp} {pos : Pos} {x y : PV} {c : Bool} (ea : E X Γ a x) (eb : E X Γ b y) (k : Cmp X op x y c) (hm : behindInMarks op b = false := by with_unfolding_all rfl) : B X Γ (.Compare a [op] [b] pos) c := B.cmp ea eb (k Γ) hm
theorem E.ifExp {test body orelse : PySem.Expr} {pos : Pos} {b : Bool} {x : PV} (ht : B X Γ test b) (h1 : b = true → E X Γ body x) (h2 : b = false → E X Γ orelse x) : E X Γ (.IfExp test body orelse pos) x := fun F m l h H =>
  p_IfExp ((ht F m l h H).mono fun c h' ⟨F', le, H', hc⟩ => by
    subst hc
    cases c with
    | true => exact ((h1 rfl) F' m l h' H').mono fun v h₂ ⟨F₂, le₂, H₂, r⟩ => ⟨F₂, fun a o e => le₂ a o (le a o e), H₂, r⟩
    | false => exact ((h2 rfl) F' m l h' H').mono fun v h₂ ⟨F₂, le₂, H₂, r⟩ => ⟨F₂, fun a o e => le₂ a o (le a o e), H₂, r⟩)
end
end Mine

end
section
open PySem PySem.W PyProof.Rows PySem.Calls
set_option Elab.async false
set_option linter.unusedVariables false
set_option maxRecDepth 100000
set_option maxHeartbeats 4000000
namespace Mine
inductive Out
  | next (Γ : Ctx)
  | brk (Γ : Ctx)
  | cont (Γ : Ctx)
  | ret (p : PV) (Γ : Ctx)
section
variable {X : Fm} {Γ Γ' : Ctx} {F F' : Store} {m : Str → Option Value} {l : List (Addr × Obj)} {h h' : Heap}
noncomputable def OutOk (X : Fm) (F : Store) (Q : Out → Prop) : Flow → Heap → Prop
  | .next, h => ∃ Γ' F' m l, (∀ a o, F a o → F' a o) ∧ Holds X Γ' F' m l h ∧ Q (.next Γ')
  | .brk, h => ∃ Γ' F' m l, (∀ a o, F a o → F' a o) ∧ Holds X Γ' F' m l h ∧ Q (.brk Γ')
  | .cont, h => ∃ Γ' F' m l, (∀ a o, F a o → F' a o) ∧ Holds X Γ' F' m l h ∧ Q (.cont Γ')
  | .ret v, h => ∃ p Γ' F' m l, (∀ a o, F a o → F' a o) ∧ Holds X Γ' F' m l h ∧ Rep X.prog X.w F' X.XR v p ∧ Q (.ret p Γ')
theorem OutOk.mono {Q Q' : Out → Prop} {f : Flow} (le : ∀ a o, F a o → F' a o) (x : OutOk X F' Q f h) (q : ∀ o, Q o → Q' o) : OutOk X F Q' f h := by
  cases f with
  | next => obtain ⟨Γ', F2, m, l, le2, H, z⟩ := x; exact ⟨Γ', F2, m, l, fun a o e => le2 a o (le a o e), H, q _ z⟩
  | brk => obtain ⟨Γ', F2, m, l, le2, H, z⟩ := x; exact ⟨Γ', F2, m, l, fun a o e => le2 a o (le a o e), H, q _ z⟩
  | cont => obtain ⟨Γ', F2, m, l, le2, H, z⟩ := x; exact ⟨Γ', F2, m, l, fun a o e => le2 a o (le a o e), H, q _ z⟩
  | ret v => obtain ⟨p, Γ', F2, m, l, le2, H, r, z⟩ := x; exact ⟨p, Γ', F2, m, l, fun a o e => le2 a o (le a o e), H, r, q _ z⟩
noncomputable def Ex (X : Fm) (Γ : Ctx) (ss : List Stmt) (Q : Out → Prop) : Prop := ∀ F m l h, Holds X Γ F m l h → TP X.prog X.w X.A (execs ss X.env) h (OutOk X F Q)
noncomputable def Kx (X : Fm) (rest : List Stmt) (Q : Out → Prop) : Out → Prop
  | .next Γ => Ex X Γ rest Q
  | o => Q o
theorem Ex.nil {Q : Out → Prop} (q : Q (.next Γ)) : Ex X Γ [] Q := fun F m l h H => TP.execs_nil ⟨Γ, F, m, l, fun _ _ e => e, H, q⟩
theorem Ex.cons {s : Stmt} {rest : List Stmt} {Q : Out → Prop} (x : ∀ F m l h, Holds X Γ F m l h → TP X.prog X.w X.A (exec s X.env) h (OutOk X F (Kx X rest Q))) : Ex X Γ (s :: rest) Q := fun F m l h H =>
  TP.execs_cons ((x F m l h H).mono fun f h₁ z => by
    cases f with
    | next =>
      obtain ⟨Γ', F', m', l', le, H', q⟩ := z
      exact (q F' m' l' h₁ H').mono fun f h₂ z => z.mono le fun _ q => q
    | brk => exact z
    | cont => exact z
    | ret v => exact z)
theorem sub_nil : ∀ x b, ([] : Ctx).lookup x = some b → Γ.lookup x = some b := fun x b e => by simp at e
theorem sub_cons {y : Str} {c : Bind} (e : Γ.lookup y = some c) (r : ∀ x b, Γ'.lookup x = some b → Γ.lookup x = some b) : ∀ x b, ((y, c) :: Γ').lookup x = some b → Γ.lookup x = some b := fun x b q => by
  rw [List.lookup_cons] at q
  by_cases z : x = y
  · subst z; simp at q; subst q; exact e
  · have : (x == y) = false := by simpa using z
    rw [this] at q; exact r x b q
theorem look_here {y : Str} {c : Bind} : List.lookup y ((y, c) :: Γ) = some c := by simp
theorem look_next {x y : Str} {c : Bind} {r : Option Bind} (n : x ≠ y) (e : List.lookup x Γ = r) : List.lookup x ((y, c) :: Γ) = r := by
  rw [List.lookup_cons]
  have : (x == y) = false := by simpa using n
  rw [this]; exact e

theorem isCel_lst {o : Obj} {v : Option Value} {p : PV} {F R : Store} (hc : IsCel o v) (oR : ORep X.prog X.w F R o p) : False := by
  unfold IsCel at hc
  cases oR with
  | list h1 h2 => obtain ⟨n, rfl⟩ := h1; cases hc
  | dict h1 h2 h3 =>
    obtain ⟨es, n, _, e, _⟩ := h1
    rw [e] at hc; cases hc
theorem S.one (H : S h₀ D L m l h) {a : Addr} {o o' : Obj} (h1 : (a, o) ∈ l) (h2 : (a, o') ∈ l) : o = o' := by
  have e := H.led _ h1
  rw [H.led _ h2] at e
  exact (Option.some.inj e).symm
theorem lv_store {Q : Unit → Heap → Prop} (e : EnvOk env) (H : S h₀ D env.locals m l h) (q : ∀ h', Sub [env.locals] h h' → S h₀ D env.locals (upd m x v) l h' → Q () h') (hl : env.kindOf x = some .local) : T prog w A (storeName env x v) h Q :=
  fun s es => by subst es; exact wpAny_storeName_local hl H.ns (fun h' hn hs => ⟨h', _, rfl, q h' (Sub.same hs) (H.store hn hs)⟩) (notTop e)
noncomputable def Sto (X : Fm) (x : Str) : Prop := X.env.kindOf x = some .local ∨ (X.env.kindOf x = some .cell ∧ ∃ c, X.env.cells.lookup x = some c ∧ X.h₀.get? c = none)
theorem mem_set {l : List (Addr × Obj)} {i : Nat} {a b : Addr} {o o' p : Obj} (hi : l[i]? = some (a, o)) (hb : (b, p) ∈ l) (n : b ≠ a) : (b, p) ∈ l.set i (a, o') := by
  obtain ⟨j, hj, e⟩ := List.getElem_of_mem hb
  have hij : i ≠ j := fun q => by
    subst q
    rw [List.getElem?_eq_getElem hj, e] at hi
    cases hi; exact n rfl
  rw [List.mem_iff_getElem]
  exact ⟨j, by simpa using hj, by rw [List.getElem_set, if_neg hij]; exact e⟩
theorem map_set {l : List (Addr × Obj)} {i : Nat} {a : Addr} {o o' : Obj} (hi : l[i]? = some (a, o)) : (l.set i (a, o')).map (·.1) = l.map (·.1) := by
  rw [List.map_set]
  refine List.ext_getElem (by first | walk_at "mem" | simp) fun j h1 h2 => ?_
  rw [List.getElem_set]
  split
  · rename_i e; subst e
    have hi' : i < l.length := by simpa using h2
    rw [List.getElem?_eq_getElem hi'] at hi
    have := Option.some.inj hi
    simp [this]
  · rfl
theorem Holds.put (ok : FmOk X) (H : Holds X Γ F m l h) {x : Str} {v : Value} {b : Bind} (hx : Sto X x) (hb : ∀ l', (∀ c o, (c, o) ∈ l → (∃ u, IsCel o u) ∨ (c, o) ∈ l') → BindOk X F l' v b)
    (hinj : ∀ a, a ∈ b.addrs → ∀ y c, y ≠ x → Γ.lookup y = some c → a ∉ c.addrs) :
    TP X.prog X.w X.A (storeName X.env x v) h fun _ h' => ∃ m' l', Holds X ((x, b) :: Γ) F m' l' h' ∧ (X.env.kindOf x = some .local → l' = l ∧ Sub [X.env.locals] h h') := by
  have later : ∀ {h' : Heap} {m' : Str → Option Value} {l' : List (Addr × Obj)}, (∀ y u, y ≠ x → Look X m l y u → Look X m' l' y u) → Look X m' l' x v → (∀ c o, (c, o) ∈ l → (∃ u, IsCel o u) ∨ (c, o) ∈ l') → S X.h₀ X.D X.env.locals m' l' h' → (∀ a o, F a o → h'.get? a = some o) → l'.map (·.1) = l.map (·.1) → (∀ y c, X.env.cells.lookup y = some c → X.h₀.get? c = none → ∃ o v, (c, o) ∈ l' ∧ IsCel o v) → Holds X ((x, b) :: Γ) F m' l' h' := by
    intro h' m' l' k1 kx kl hs hf hm hc
    refine { s := hs, fz := fun a o e => ⟨hf a o e, (H.fz a o e).2.1, hm ▸ (H.fz a o e).2.2⟩, fn := H.fn, f0 := H.f0, nm := fun y c e => ?_, inj := fun y z p q a e1 e2 a1 a2 => ?_, cel := hc }
    · by_cases hy : y = x
      · subst hy
        rw [look_here] at e; cases e
        exact ⟨v, kx, hb l' kl⟩
      · rw [look_next hy rfl] at e
        obtain ⟨u, lk, bo⟩ := H.nm y c e
        refine ⟨u, k1 y u hy lk, bo.mono (fun _ _ e => e) fun a o ha hl => ?_⟩
        obtain ⟨o', h1, h2⟩ := bo.mem ha
        rw [H.s.one hl h1]
        exact (kl a o' h1).elim (fun ⟨u, q⟩ => (h2 _ q).elim) id
    · by_cases hy : y = x
      · by_cases hz : z = x
        · rw [hy, hz]
        · exfalso
          rw [look_next hz rfl] at e2
          subst hy
          rw [look_here] at e1; cases e1
          exact hinj a a1 z q hz e2 a2
      · rw [look_next hy rfl] at e1
        by_cases hz : z = x
        · exfalso
          subst hz
          rw [look_here] at e2; cases e2
          exact hinj a a2 y p hy e1 a1
        · rw [look_next hz rfl] at e2
          exact H.inj y z p q a e1 e2 a1 a2
  rcases hx with hl | ⟨hk, c, hc, hn⟩
  · refine TP.of (lv_store ok.e H.s (fun h₁ s₁ S₁ => ⟨upd m x v, l, ?_, fun _ => ⟨rfl, s₁⟩⟩) hl)
    refine later (h' := h₁) (fun y u hy lk => ?_) (.inl ⟨hl, upd_here⟩) (fun _ _ q => .inr q) S₁ (fun a o e => s₁ _ _ (by simpa using (H.fz a o e).2.1) (H.fz a o e).1) rfl H.cel
    exact lk.imp (fun q => ⟨q.1, by rw [upd, if_neg hy]; exact q.2⟩) id
  · obtain ⟨o, u, ho, hv⟩ := H.cel x c hc hn
    refine TP.of (t_storeCell ok.e hk hc (H.s.led _ ho) hv fun h₁ o₁ s₁ g₁ c₁ => ?_)
    obtain ⟨i, hi, e⟩ := List.getElem_of_mem ho
    have hi' : l[i]? = some (c, o) := by rw [List.getElem?_eq_getElem hi, e]
    have S₁ := H.s.upd i hi' s₁ g₁
    have here : (c, o₁) ∈ l.set i (c, o₁) := List.mem_iff_getElem.mpr ⟨i, by simpa using hi, by simp⟩
    refine ⟨m, _, later (h' := h₁) (fun y u hy lk => ?_) (.inr ⟨c, o₁, hk, hc, .inl here, c₁⟩) (fun b p q => ?_) S₁ (fun a o e => s₁ _ _ ?_ (H.fz a o e).1) (map_set hi') (fun y b hy hb' => ?_), fun q => by rw [hk] at q; cases q⟩
    · refine lk.imp id ?_
      rintro ⟨b, p, k1, k2, k3, k4⟩
      refine ⟨b, p, k1, k2, k3.imp (fun q => mem_set hi' q fun z => ?_) id, k4⟩
      subst z; exact hy (ok.cinj _ _ _ k2 hc)
    · by_cases z : b = c
      · subst z
        rw [H.s.one q ho]; exact .inl ⟨u, hv⟩
      · exact .inr (mem_set hi' q z)
    · have := (H.fz a o e).2.2
      intro q
      obtain rfl : a = c := by simpa using q
      exact this (List.mem_map_of_mem ho)
    · by_cases z : b = c
      · subst z; exact ⟨o₁, _, here, c₁⟩
      · obtain ⟨o', v', h1, h2⟩ := H.cel y b hy hb'
        exact ⟨o', v', mem_set hi' h1 z, h2⟩
theorem Holds.putF (ok : FmOk X) (H : Holds X Γ F m l h) {x : Str} {v : Value} {p : PV} (hx : Sto X x) (r : Rep X.prog X.w F X.XR v p) : TP X.prog X.w X.A (storeName X.env x v) h fun _ h' => ∃ m' l', Holds X ((x, .fz p) :: Γ) F m' l' h' :=
  (H.put (b := .fz p) ok hx (fun _ _ => r) fun a q => by cases q).mono fun _ h' ⟨m', l', H', _⟩ => ⟨m', l', H'⟩
theorem Holds.putL (ok : FmOk X) (H : Holds X Γ F m l h) {x : Str} {v : Value} {p : PV} (hx : X.env.kindOf x = some .local) (r : Rep X.prog X.w F X.XR v p) : TP X.prog X.w X.A (storeName X.env x v) h fun _ h' => ∃ m', Holds X ((x, .fz p) :: Γ) F m' l h' :=
  (H.put (b := .fz p) ok (.inl hx) (fun _ _ => r) fun a q => by cases q).mono fun _ h' ⟨m', l', H', e⟩ => ⟨m', (e hx).1 ▸ H'⟩
theorem Holds.track (ok : FmOk X) (H : Holds X Γ F m l h) {a : Addr} {o : Obj} (fr : Fresh X F l a) (ho : h.get? a = some o) : Holds X Γ F m (l ++ [(a, o)]) h :=
  { s := H.s.track ho fr.new fr.offL fr.offl
    fz := fun b p e => ⟨(H.fz b p e).1, (H.fz b p e).2.1, by
      rw [List.map_append, List.mem_append]
      rintro (q | q)
      · exact (H.fz b p e).2.2 q
      · obtain rfl : b = a := by simpa using q
        exact fr.offF p e⟩
    fn := H.fn
    f0 := H.f0
    nm := fun x b e => by
      obtain ⟨v, lk, bo⟩ := H.nm x b e
      exact ⟨v, lk.imp id fun ⟨c, o, k1, k2, k3, k4⟩ => ⟨c, o, k1, k2, k3.imp (fun q => List.mem_append_left _ q) id, k4⟩, bo.mono (fun _ _ e => e) fun _ _ _ q => List.mem_append_left _ q⟩
    inj := H.inj
    cel := fun x c e1 e2 => by
      obtain ⟨o, v, h1, h2⟩ := H.cel x c e1 e2
      exact ⟨o, v, List.mem_append_left _ h1, h2⟩ }
end
end Mine

end
section
open PySem PySem.W PyProof.Rows PySem.Calls
set_option Elab.async false
set_option linter.unusedVariables false
set_option maxRecDepth 100000
set_option maxHeartbeats 4000000
namespace Mine
section
variable {X : Fm} {Γ Γ' : Ctx} {F F' : Store} {m : Str → Option Value} {l : List (Addr × Obj)} {h h' : Heap} {Q : Out → Prop} {rest : List Stmt}
theorem Rep.noXR {v : Value} {p : PV} (r : Rep X.prog X.w F (RS X l) v p) (s : Safe p) : Rep X.prog X.w F X.XR v p := r.safe s
theorem Ex.assign (ok : FmOk X) {x : Str} {px pos : Pos} {e : PySem.Expr} {p : PV} (ee : E X Γ e p) (hp : Safe p) (hx : Sto X x) (r : Ex X ((x, .fz p) :: Γ) rest Q)
    (hs : swapsWith e (some (.Name x px)) pos.line X.env = Pure.pure false := by rfl) : Ex X Γ (.Assign [.Name x px] e pos :: rest) Q := .cons fun F m l h H =>
  TP.Assign_Name ((ee F m l h H).mono fun v h₁ ⟨F₁, le₁, H₁, r₁⟩ => (H₁.putF ok hx (r₁.noXR hp)).mono fun _ h₂ ⟨m', l', H₂⟩ => ⟨_, F₁, m', l', le₁, H₂, r⟩) hs
theorem Holds.putO (ok : FmOk X) (H : Holds X Γ F m l h) {x : Str} {a : Addr} {o : Obj} {p : PV} (hx : Sto X x) (fr : Fresh X F l a) (ho : h.get? a = some o) (oR : ORep X.prog X.w F (RS X l) o p) (hp : Safe p) : TP X.prog X.w X.A (storeName X.env x (.ref a)) h fun _ h' => ∃ m' l', Holds X ((x, .own a p) :: Γ) F m' l' h' ∧ (X.env.kindOf x = some .local → l' = l ++ [(a, o)] ∧ Sub [X.env.locals] h h') := by
  refine (H.track ok fr ho).put (b := .own a p) ok hx (fun l' kl => ⟨o, rfl, ?_, oR.safe hp⟩) fun b e1 y r hy hr e2 => ?_
  · exact (kl a o (by first | walk_at "mem" | simp)).elim (fun ⟨u, q⟩ => (isCel_lst q oR).elim) id
  · obtain rfl : b = a := by simpa [Bind.addrs] using e1
    obtain ⟨v, lk, bo⟩ := H.nm y r hr
    obtain ⟨o', h1, _⟩ := bo.mem e2
    exact fr.offl (List.mem_map_of_mem h1)
theorem Ex.assignN (ok : FmOk X) {x : Str} {px pos : Pos} {e : PySem.Expr} {p : PV} (ee : N X Γ e p) (hp : Safe p) (hx : Sto X x) (r : ∀ a, a ∉ X.D → Ex X ((x, .own a p) :: Γ) rest Q)
    (hs : swapsWith e (some (.Name x px)) pos.line X.env = Pure.pure false := by rfl) : Ex X Γ (.Assign [.Name x px] e pos :: rest) Q := .cons fun F m l h H =>
  TP.Assign_Name ((ee F m l h H).mono fun v h₁ ⟨F₁, a, o, le₁, H₁, hv, ho, fr, oR⟩ => by
    subst hv
    exact (H₁.putO ok hx fr ho oR hp).mono fun _ h₂ ⟨m', l', H₂, _⟩ => ⟨_, F₁, m', l', le₁, H₂, r a fun z => fr.offl (H₁.s.dl a z)⟩) hs
theorem Ex.ite {test : PySem.Expr} {body orelse : List Stmt} {pos : Pos} {c : Bool} (t : B X Γ test c) (h1 : c = true → Ex X Γ body (Kx X rest Q)) (h2 : c = false → Ex X Γ orelse (Kx X rest Q)) : Ex X Γ (.If test body orelse pos :: rest) Q := .cons fun F m l h H =>
  TP.If ((t F m l h H).mono fun b h₁ ⟨F₁, le₁, H₁, hb⟩ => by
    subst hb
    cases b with
    | true => exact (h1 rfl F₁ m l h₁ H₁).mono fun f h₂ z => z.mono le₁ fun _ q => q
    | false => exact (h2 rfl F₁ m l h₁ H₁).mono fun f h₂ z => z.mono le₁ fun _ q => q)
theorem Ex.ret {e : PySem.Expr} {pos : Pos} {p : PV} (ee : E X Γ e p) (hp : Safe p) (q : Q (.ret p Γ)) : Ex X Γ (.Return (some e) pos :: rest) Q := .cons fun F m l h H =>
  TP.Return ((ee F m l h H).mono fun v h₁ ⟨F₁, le₁, H₁, r₁⟩ => ⟨p, Γ, F₁, m, l, le₁, H₁, r₁.noXR hp, q⟩)
theorem Holds.turnC (ok : FmOk X) (H : Holds X Γ F m l h) {x : Str} {b b' : Bind} {v : Value} {a : Addr} {o o' : Obj} (hx : Γ.lookup x = some b) (ha : a ∈ b.addrs) (ha' : ∀ c, c ∈ b'.addrs → c ∈ b.addrs) (lk : Look X m l x v) (hl : (a, o) ∈ l) (nc : ∀ u, o.data ≠ .cell u) (nc' : ∀ u, o'.data ≠ .cell u) (s : Sub [a] h h') (ho : h'.get? a = some o')
    (bo : ∀ l', (a, o') ∈ l' → (∀ c oc, (c, oc) ∈ l → c ≠ a → (c, oc) ∈ l') → BindOk X F l' v b') : ∃ l', l'.map (·.1) = l.map (·.1) ∧ Holds X ((x, b') :: Γ) F m l' h' := by
  obtain ⟨i, hi, eI⟩ := List.getElem_of_mem hl
  have hi' : l[i]? = some (a, o) := by rw [List.getElem?_eq_getElem hi, eI]
  have S₁ := H.s.upd i hi' s ho
  have here : (a, o') ∈ l.set i (a, o') := List.mem_iff_getElem.mpr ⟨i, by simpa using hi, by simp⟩
  have ncel : ∀ {c oc u}, (c, oc) ∈ l → IsCel oc u → c ≠ a := fun h1 h2 z => by
    subst z
    rw [H.s.one h1 hl] at h2
    exact nc _ h2
  have lk1 : ∀ {y u}, Look X m l y u → Look X m (l.set i (a, o')) y u := fun lk => lk.imp id fun ⟨c, oc, k1, k2, k3, k4⟩ => ⟨c, oc, k1, k2, k3.imp (fun q => mem_set hi' q (ncel q k4)) id, k4⟩
  refine ⟨_, map_set hi', { s := S₁, fz := fun b q e => ⟨s _ _ ?_ (H.fz b q e).1, (H.fz b q e).2.1, (map_set hi') ▸ (H.fz b q e).2.2⟩, fn := H.fn, f0 := H.f0, nm := fun y c e => ?_, inj := fun y z q r b e1 e2 a1 a2 => ?_, cel := fun y c e1 e2 => ?_ }⟩
  · have := (H.fz b q e).2.2
    intro z
    obtain rfl : b = a := by simpa using z
    exact this (List.mem_map_of_mem hl)
  · by_cases hy : y = x
    · subst hy
      rw [look_here] at e; cases e
      exact ⟨v, lk1 lk, bo _ here fun c oc q n => mem_set hi' q n⟩
    · rw [look_next hy rfl] at e
      obtain ⟨u, lku, bo⟩ := H.nm y c e
      refine ⟨u, lk1 lku, bo.mono (fun _ _ e => e) fun b ob hb q => mem_set hi' q fun z => ?_⟩
      subst z
      exact hy (H.inj _ _ _ _ _ e hx hb ha)
  · by_cases hy : y = x
    · by_cases hz : z = x
      · rw [hy, hz]
      · exfalso
        subst hy
        rw [look_next hz rfl] at e2
        rw [look_here] at e1; cases e1
        exact hz (H.inj _ _ _ _ _ e2 hx a2 (ha' _ a1))
    · rw [look_next hy rfl] at e1
      by_cases hz : z = x
      · exfalso
        subst hz
        rw [look_here] at e2; cases e2
        exact hy (H.inj _ _ _ _ _ e1 hx a1 (ha' _ a2))
      · rw [look_next hz rfl] at e2
        exact H.inj y z q r b e1 e2 a1 a2
  · obtain ⟨oc, v, h1, h2⟩ := H.cel y c e1 e2
    exact ⟨oc, v, mem_set hi' h1 (ncel h1 h2), h2⟩
theorem Holds.turnB (ok : FmOk X) (H : Holds X Γ F m l h) {x : Str} {b b' : Bind} {v : Value} {a : Addr} {o o' : Obj} (hx : Γ.lookup x = some b) (ha : a ∈ b.addrs) (ha' : ∀ c, c ∈ b'.addrs → c ∈ b.addrs) (lk : Look X m l x v) (hl : (a, o) ∈ l) (nc : ∀ u, o.data ≠ .cell u) (nc' : ∀ u, o'.data ≠ .cell u) (s : Sub [a] h h') (ho : h'.get? a = some o')
    (bo : ∀ l', (a, o') ∈ l' → (∀ c oc, (c, oc) ∈ l → c ≠ a → (c, oc) ∈ l') → BindOk X F l' v b') : ∃ l', Holds X ((x, b') :: Γ) F m l' h' := let ⟨l', _, H'⟩ := H.turnC ok hx ha ha' lk hl nc nc' s ho bo; ⟨l', H'⟩
theorem Holds.rebind (H : Holds X Γ F m l h) {x : Str} {b b' : Bind} (hx : Γ.lookup x = some b) (ha : ∀ c, c ∈ b'.addrs → c ∈ b.addrs) (k : ∀ v, BindOk X F l v b → BindOk X F l v b') : Holds X ((x, b') :: Γ) F m l h where
  s := H.s
  fz := H.fz
  fn := H.fn
  f0 := H.f0
  nm := fun y c e => by
    by_cases hy : y = x
    · subst hy
      rw [look_here] at e; cases e
      obtain ⟨v, lk, bo⟩ := H.nm y b hx
      exact ⟨v, lk, k v bo⟩
    · rw [look_next hy rfl] at e
      exact H.nm y c e
  inj := fun y z p q a e1 e2 a1 a2 => by
    have e1' : ∃ p', Γ.lookup y = some p' ∧ a ∈ p'.addrs := by
      by_cases hy : y = x
      · subst hy; rw [look_here] at e1; cases e1; exact ⟨b, hx, ha _ a1⟩
      · rw [look_next hy rfl] at e1; exact ⟨p, e1, a1⟩
    have e2' : ∃ p', Γ.lookup z = some p' ∧ a ∈ p'.addrs := by
      by_cases hy : z = x
      · subst hy; rw [look_here] at e2; cases e2; exact ⟨b, hx, ha _ a2⟩
      · rw [look_next hy rfl] at e2; exact ⟨q, e2, a2⟩
    obtain ⟨p', e3, a3⟩ := e1'
    obtain ⟨q', e4, a4⟩ := e2'
    exact H.inj y z p' q' a e3 e4 a3 a4
  cel := H.cel
theorem orep_nc {prog : Program} {w : World} {F R : Store} {o : Obj} {p : PV} (oR : ORep prog w F R o p) : ∀ u, o.data ≠ .cell u := fun u hu => by
  cases oR with
  | list h1 h2 => obtain ⟨n, rfl⟩ := h1; cases hu
  | dict h1 h2 h3 =>
    obtain ⟨es, n, _, e, _⟩ := h1
    rw [e] at hu; cases hu
theorem Holds.turn (ok : FmOk X) (H : Holds X Γ F m l h) {x : Str} {p p' : PV} {a : Addr} {o o' : Obj} (hx : Γ.lookup x = some (.own a p)) (lk : Look X m l x (.ref a)) (hl : (a, o) ∈ l) (oR : ORep X.prog X.w F X.XR o p) (s : Sub [a] h h') (ho : h'.get? a = some o') (oR' : ORep X.prog X.w F X.XR o' p') :
    ∃ l', Holds X ((x, .own a p') :: Γ) F m l' h' := H.turnB ok hx (.head _) (fun _ q => q) lk hl (orep_nc oR) (orep_nc oR') s ho fun l' hl' _ => ⟨o', rfl, hl', oR'⟩
theorem Holds.own (H : Holds X Γ F m l h) {x : Str} {a : Addr} {p : PV} (hx : Γ.lookup x = some (.own a p)) : ∃ o, Look X m l x (.ref a) ∧ (a, o) ∈ l ∧ ORep X.prog X.w F X.XR o p := by
  obtain ⟨v, lk, o, rfl, h2, h3⟩ := H.nm x _ hx
  exact ⟨o, lk, h2, h3⟩
theorem Ex.append (ok : FmOk X) {pl : Sem Bool} {x : Str} {px pa pc pos : Pos} {e : PySem.Expr} {a : Addr} {xs : List PV} {p : PV} (hx : Γ.lookup x = some (.own a (.list xs))) (ee : E X Γ e p) (hp : Safe p) (hsz : xs.length ≤ 1000000) (hst : noStars [e] = true) (hd : (x == ("__debug__" : Str)) = false)
    (he : ∀ Q' h, (TP X.prog X.w X.A (eval (.Name x px) X.env) h fun ov h₁ => TP X.prog X.w X.A (getMethod ov "append" pl) h₁ fun fx h₂ => TP X.prog X.w X.A (PySem.callWith pc fx.1 fx.2 (backTo pc (starEach [e] X.env)) []) h₂ Q') → TP X.prog X.w X.A (eval (.Call (.Attribute (.Name x px) "append" pa) [e] [] pc) X.env) h Q')
    (r : Ex X ((x, .own a (.list (xs ++ [p]))) :: Γ) rest Q) (hs : swapsWith (.Call (.Attribute (.Name x px) "append" pa) [e] [] pc) none pos.line X.env = Pure.pure false := by rfl) : Ex X Γ (.Expr (.Call (.Attribute (.Name x px) "append" pa) [e] [] pc) pos :: rest) Q := .cons fun F m l h H => by
  refine TP.Expr (he _ _ ?_) ok.e.inter hs
  obtain ⟨o, lk, hl, oR⟩ := H.own hx
  refine look_eval ok H lk hd ?_
  cases oR with
  | list lst rs =>
    have g := H.s.led _ hl
    refine TP.of (t_getMethodB g lst.cls.1 lst.cls.2 PySem.F.plainAttrs_list PySem.F.slot_list_append PySem.F.type_list_append ?_)
    refine TP.callWith ((ee F m l h H).mono fun v h₁ ⟨F₁, le₁, H₁, r₁⟩ => ⟨Keeps.builtin, ?_⟩) hst
    refine TP.of (t_append (H₁.s.led _ hl) lst (by have := rs.length; rw [sizeLine_eq]; (first | lia | omega)) fun h₂ o₂ s₂ g₂ l₂ => ⟨(fun b q => by cases q), ?_⟩)
    obtain ⟨l', H₂⟩ := H₁.turn ok hx lk hl (.list lst (rs.mono le₁ fun _ _ e => e)) s₂ g₂ (p' := .list (xs ++ [p])) (.list l₂ ((rs.mono le₁ fun _ _ e => e).append (.cons (r₁.noXR hp) .nil)))
    exact ⟨_, F₁, m, l', le₁, H₂, r⟩
theorem Ex.freeze (ok : FmOk X) {ss : List Stmt} {x : Str} {a : Addr} {p : PV} (hD : a ∉ X.D) (hx : Γ.lookup x = some (.own a p)) (r : Ex X ((x, .fz p) :: Γ) ss Q) : Ex X Γ ss Q := fun F m l h H => by
  obtain ⟨o, lk, hl, oR⟩ := H.own hx
  have ncel : ∀ {c oc u}, (c, oc) ∈ l → IsCel oc u → c ≠ a := fun h1 h2 z => by
    subst z
    rw [H.s.one h1 hl] at h2
    exact isCel_lst h2 oR
  have keep : ∀ {c oc}, (c, oc) ∈ l → c ≠ a → (c, oc) ∈ l.filter (fun q => decide (q.1 ≠ a)) := fun h1 h2 => List.mem_filter.mpr ⟨h1, by simpa using h2⟩
  have lk1 : ∀ {y u}, Look X m l y u → Look X m (l.filter (fun q => decide (q.1 ≠ a))) y u := fun lk => lk.imp id fun ⟨c, oc, k1, k2, k3, k4⟩ => ⟨c, oc, k1, k2, k3.imp (fun q => keep q (ncel q k4)) id, k4⟩
  have new : X.h₀.get? a = none := (H.s.own _ hl).resolve_left hD
  have offL : a ≠ X.env.locals := fun z => H.s.offL (z ▸ List.mem_map_of_mem (f := (·.1)) hl)
  have ho := H.s.led _ hl
  have offF : ∀ o, ¬ F a o := fun o e => (H.fz a o e).2.2 (List.mem_map_of_mem (f := (·.1)) hl)
  have HH : Holds X ((x, .fz p) :: Γ) (F.add a o) m (l.filter (fun q => decide (q.1 ≠ a))) h := by
    refine { s := H.s.drop List.filter_sublist (fun d hd => by
      obtain ⟨q, hq, rfl⟩ := List.mem_map.mp (H.s.dl d hd)
      exact List.mem_map_of_mem (List.mem_filter.mpr ⟨hq, decide_eq_true fun z => hD (z ▸ hd)⟩)), fz := fun b q e => ?_, fn := fun b q e => e.elim (H.fn b q) fun e => by obtain ⟨rfl, rfl⟩ := e; exact .inr new, f0 := fun b q e => .inl (H.f0 b q e), nm := fun y c e => ?_, inj := fun y z q r b e1 e2 a1 a2 => ?_, cel := fun y c e1 e2 => ?_ }
    · have sub : ∀ {b}, b ∈ (l.filter (fun q => decide (q.1 ≠ a))).map (·.1) → b ∈ l.map (·.1) ∧ b ≠ a := fun hb => by
        obtain ⟨q, hq, rfl⟩ := List.mem_map.mp hb
        exact ⟨List.mem_map_of_mem (List.mem_filter.mp hq).1, by simpa using (List.mem_filter.mp hq).2⟩
      rcases e with e | ⟨rfl, rfl⟩
      · exact ⟨(H.fz b q e).1, (H.fz b q e).2.1, fun z => (H.fz b q e).2.2 (sub z).1⟩
      · exact ⟨ho, offL, fun z => (sub z).2 rfl⟩
    · by_cases hy : y = x
      · subst hy
        rw [look_here] at e; cases e
        refine ⟨.ref a, lk1 lk, ?_⟩
        cases oR with
        | list h1 h2 => exact .list (.inr ⟨rfl, rfl⟩) h1 (h2.mono (fun _ _ e => .inl e) fun _ _ e => e)
        | dict h1 h2 h3 => exact .dict (.inr ⟨rfl, rfl⟩) h1 h2 (h3.mono (fun _ _ e => .inl e) fun _ _ e => e)
      · rw [look_next hy rfl] at e
        obtain ⟨u, lku, bo⟩ := H.nm y c e
        refine ⟨u, lk1 lku, bo.mono (fun _ _ e => .inl e) fun b ob hb q => keep q fun z => ?_⟩
        subst z
        exact hy (H.inj _ _ _ _ _ e hx hb (.head _))
    · have hy : y ≠ x := fun z => by subst z; rw [look_here] at e1; cases e1; cases a1
      have hz : z ≠ x := fun z => by subst z; rw [look_here] at e2; cases e2; cases a2
      rw [look_next hy rfl] at e1
      rw [look_next hz rfl] at e2
      exact H.inj y z q r b e1 e2 a1 a2
    · obtain ⟨oc, v, h1, h2⟩ := H.cel y c e1 e2
      exact ⟨oc, v, keep h1 (ncel h1 h2), h2⟩
  exact (r _ m _ h HH).mono fun f h₂ z => z.mono (fun _ _ e => .inl e) fun _ q => q

mutual
theorem Rep.monoV {prog : Program} {w : World} {F F' R : Store} (hF : ∀ a o, F a o → ¬ NoVal o → F' a o) {v : Value} {x : PV} : Rep prog w F R v x → Rep prog w F' R v x
  | .none => .none
  | .bool b => .bool b
  | .int i t => .int i t
  | .flt x t n => .flt x t n
  | .str s t => .str s t
  | .list h1 h2 h3 => .list (hF _ _ h1 fun z => z.ne h2.cls.1 (by decide +kernel)) h2 (Reps.monoV hF h3)
  | .rlist h1 h2 h3 => .rlist h1 h2 (Reps.monoV hF h3)
  | .tup h1 h2 h3 => .tup (hF _ _ h1 fun z => z.ne (c := "tuple") (by obtain ⟨n, e⟩ := h2; rw [e]) (by decide +kernel)) h2 (Reps.monoV hF h3)
  | .dict h1 h2 h3 h4 => .dict (hF _ _ h1 fun z => z.ne h2.cls.1 (by decide +kernel)) h2 h3 (Reps.monoV hF h4)
  | .rdict h1 h2 h3 h4 => .rdict h1 h2 h3 (Reps.monoV hF h4)
  | .raw v => .raw v
theorem Reps.monoV {prog : Program} {w : World} {F F' R : Store} (hF : ∀ a o, F a o → ¬ NoVal o → F' a o) {vs : List Value} {xs : List PV} : Reps prog w F R vs xs → Reps prog w F' R vs xs
  | .nil => .nil
  | .cons h1 h2 => .cons (Rep.monoV hF h1) (Reps.monoV hF h2)
end
theorem Holds.step (ok : FmOk X) (H : Holds X Γ F m l h) {I : Addr} {o : Obj} {G : Obj → Prop} (hI : F I o) (n : NoVal o) (new : X.h₀.get? I = none) (s : Sub [I] h h') (ho : ∀ o', G o' → h'.get? I = some o') : Holds X Γ (fun b p => (b ≠ I ∧ F b p) ∨ (b = I ∧ G p)) m l h' := by
  have gI := H.fz I o hI
  have up : ∀ b p, F b p → ¬ NoVal p → (b ≠ I ∧ F b p) ∨ (b = I ∧ G p) := fun b p e q => .inl ⟨fun z => by
    subst z
    have := (H.fz b p e).1
    rw [gI.1] at this
    cases this; exact q n, e⟩
  refine { s := ?_, fz := fun b p e => ?_, fn := fun b p e => ?_, f0 := fun b p e => ?_, nm := fun y c e => ?_, inj := H.inj, cel := H.cel }
  · refine { base := fun b q n e => s _ _ (fun z => ?_) (H.s.base b q n e), ns := ?_, led := fun p hp => s _ _ (fun z => ?_) (H.s.led p hp), own := H.s.own, nodup := H.s.nodup, offL := H.s.offL, newL := H.s.newL, dl := H.s.dl }
    · obtain rfl : b = I := by simpa using z
      rw [new] at e; cases e
    · obtain ⟨oL, a1, a2, a3, a4⟩ := H.s.ns
      exact ⟨oL, a1, a2, s _ _ (fun z => gI.2.1 (List.mem_singleton.mp z).symm) a3, a4⟩
    · obtain rfl : p.1 = I := by simpa using z
      exact gI.2.2 (List.mem_map_of_mem hp)
  · rcases e with ⟨nb, e⟩ | ⟨rfl, e⟩
    · exact ⟨s _ _ (by simpa using nb) (H.fz b p e).1, (H.fz b p e).2⟩
    · exact ⟨ho p e, gI.2⟩
  · rcases e with ⟨nb, e⟩ | ⟨rfl, e⟩
    · exact H.fn b p e
    · exact .inr new
  · refine .inl ⟨fun z => ?_, H.f0 b p e⟩
    subst z
    have := (ok.f0 b p e).1
    rw [new] at this; cases this
  · obtain ⟨u, lk, bo⟩ := H.nm y c e
    refine ⟨u, lk, ?_⟩
    cases c with
    | fz p => exact Rep.monoV up bo
    | own a p =>
      obtain ⟨oa, h1, h2, h3⟩ := bo
      refine ⟨oa, h1, h2, ?_⟩
      cases h3 with
      | list q1 q2 => exact .list q1 (q2.monoV up)
      | dict q1 q2 q3 => exact .dict q1 q2 (q3.monoV up)
    | nest as xss =>
      obtain ⟨a, oa, h1, h2, h3, h4, h5⟩ := bo
      refine ⟨a, oa, h1, up _ _ h2 fun z => z.ne h3.cls.1 (by decide +kernel), h3, h4, ?_⟩
      clear h3 h4 e
      induction h5 with
      | nil => exact .nil
      | cons q1 q2 q3 _ ih => exact .cons q1 q2 (q3.monoV up) ih
    | mat d C P =>
      obtain ⟨x, od, h1, h2, h3, h4, h5⟩ := bo
      refine ⟨x, od, h1, up _ _ h2 fun z => ?_, h3, h4, fun F2 q => h5 F2 fun a p e nv => q a p (up a p e nv) nv⟩
      obtain ⟨⟨d, hd, e'⟩, _⟩ := z
      cases e'
end
end Mine

end
section
open PySem PySem.W PyProof.Rows PySem.Calls
set_option Elab.async false
set_option linter.unusedVariables false
set_option maxRecDepth 100000
set_option maxHeartbeats 4000000
namespace Mine
section
variable {X : Fm} {Γ Γ' : Ctx} {F F' : Store} {m : Str → Option Value} {l : List (Addr × Obj)} {h h' : Heap} {Q : Out → Prop} {rest : List Stmt}
noncomputable def Std (F : Store) (h : Heap) : Prop := ∀ b o, F b o → h.get? b = some o
noncomputable def It (X : Fm) (Γ : Ctx) (iter target : PySem.Expr) (n : Nat) (P : Nat → PV) : Prop := ∀ F m l h, Holds X Γ F m l h → TP X.prog X.w X.A (eval iter X.env) h fun xv h₁ => ∃ F', (∀ a o, F a o → F' a o) ∧ Holds X Γ F' m l h₁ ∧
  TP X.prog X.w X.A (pyIter xv) h₁ fun it h₂ => ∃ I o St Pv, it = .ref I ∧ Sub [] h₁ h₂ ∧ h₁.get? I = none ∧ h₂.get? I = some o ∧ St 0 o ∧ (∀ i o, St i o → NoVal o) ∧ (∀ h, Std F' h → Iter X.prog X.w X.A I h n Pv St target) ∧ ∀ i v, i < n → Pv i v → Rep X.prog X.w F' X.XR v (P i)
noncomputable def ItC (X : Fm) (Γ : Ctx) (iter target : PySem.Expr) (n : Nat) (P : Nat → PV) : Prop := ∀ F m l h, Holds X Γ F m l h → TP X.prog X.w X.A (eval iter X.env) h fun xv h₁ => ∃ F', (∀ a o, F a o → F' a o) ∧ Holds X Γ F' m l h₁ ∧
  TP X.prog X.w X.A (pyIter xv) h₁ fun it h₂ => ∃ I o St Pv, it = .ref I ∧ Sub [] h₁ h₂ ∧ h₁.get? I = none ∧ h₂.get? I = some o ∧ St 0 o ∧ (∀ i o, St i o → NoVal o) ∧ (Std F' h₁ → Std (RS X l) h₁ → Iter X.prog X.w X.A I h₁ n Pv St target) ∧ ∀ i v, i < n → Pv i v → Rep X.prog X.w F' (RS X l) v (P i)
theorem It.toC {iter target : PySem.Expr} {n : Nat} {P : Nat → PV} (x : It X Γ iter target n P) : ItC X Γ iter target n P := fun F m l h H => (x F m l h H).mono fun xv h₁ ⟨F', le, H₁, y⟩ => ⟨F', le, H₁, y.mono fun it h₂ ⟨I, o, St, Pv, a1, a2, a3, a4, a5, a6, a7, a8⟩ =>
  ⟨I, o, St, Pv, a1, a2, a3, a4, a5, a6, fun s _ => a7 _ s, fun i v hi hv => (a8 i v hi hv).toRS⟩⟩
noncomputable def As (X : Fm) (Γ : Ctx) (target : PySem.Expr) (p : PV) (Γ' : Ctx) : Prop := ∀ F m l h v, Holds X Γ F m l h → Rep X.prog X.w F X.XR v p → TP X.prog X.w X.A (assign target X.env v) h fun _ h' => ∃ m' l', Holds X Γ' F m' l' h'
noncomputable def AsL (X : Fm) (Γ : Ctx) (target : PySem.Expr) (p : PV) (Γ' : Ctx) : Prop := ∀ F m l h v, Holds X Γ F m l h → Rep X.prog X.w F X.XR v p → TP X.prog X.w X.A (assign target X.env v) h fun _ h' => ∃ F' m', (∀ a o, F a o → F' a o) ∧ Holds X Γ' F' m' l h'
theorem As.name (ok : FmOk X) {x : Str} {px : Pos} {p : PV} (hx : Sto X x) : As X Γ (.Name x px) p ((x, .fz p) :: Γ) := fun F m l h v H r s es hp => wpAny_assign_Name (H.putF ok hx r s es hp)
theorem AsL.name (ok : FmOk X) {x : Str} {px : Pos} {p : PV} (hx : X.env.kindOf x = some .local) : AsL X Γ (.Name x px) p ((x, .fz p) :: Γ) := fun F m l h v H r s es hp => wpAny_assign_Name (((H.putL ok hx r).mono fun _ h' ⟨m', H'⟩ => (⟨F, m', fun _ _ e => e, H'⟩ : ∃ F' m', (∀ a o, F a o → F' a o) ∧ Holds X ((x, .fz p) :: Γ) F' m' l h')) s es hp)
noncomputable def LoopQ (X : Fm) (J : Ctx) (rest : List Stmt) (Q : Out → Prop) : Out → Prop
  | .next Γ' => ∀ x b, J.lookup x = some b → Γ'.lookup x = some b
  | .cont Γ' => ∀ x b, J.lookup x = some b → Γ'.lookup x = some b
  | .brk Γ' => Ex X Γ' rest Q
  | .ret p Γ' => Q (.ret p Γ')
theorem Ex.forIn (ok : FmOk X) {target iter : PySem.Expr} {body : List Stmt} {pos : Pos} {n : Nat} {P : Nat → PV} (it : It X Γ iter target n P) (J J₁ : Nat → Ctx) (init : ∀ x b, (J 0).lookup x = some b → Γ.lookup x = some b)
    (as : ∀ i, i < n → As X (J i) target (P i) (J₁ i)) (turn : ∀ i, i < n → Ex X (J₁ i) body (LoopQ X (J (i + 1)) rest Q)) (fin : Ex X (J n) rest Q) (hs : ∀ x, foldedSetIterable iter X.env x = Pure.pure x := by intro _; rfl) : Ex X Γ (.For target iter body [] pos :: rest) Q := .cons fun F m l h H => by
  refine TP.For ((it F m l h H).mono fun xv h₁ ⟨F', le, H₁, y⟩ => y.mono ?_) hs
  rintro itv h₂ ⟨I, o, St, Pv, rfl, s₂, nI, gI, st, nv, itr, rp⟩
  have fr := H₁.fresh nI
  have H₂ := (H₁.freeze s₂ nI gI).weak init
  refine TFP.forLoop (fun k h => ∃ i F1 m1 l1 o, k + i = n ∧ (∀ a o, F' a o → F1 a o) ∧ Holds X (J i) F1 m1 l1 h ∧ F1 I o ∧ St i o) ?_ n ⟨0, _, m, l, o, rfl, fun _ _ e => .inl e, H₂, .inr ⟨rfl, rfl⟩, st⟩
  rintro k h ⟨i, F1, m1, l1, o, hk, le1, HH, hI, hst⟩
  have gI := (HH.fz I o hI).1
  have stand : Std F' h := fun b p e => (HH.fz b p (le1 b p e)).1
  by_cases hlt : i < n
  · refine (TP.of ((itr h stand).item i h o hlt Sub.refl gI hst)).mono ?_
    rintro r h₃ ⟨v, o', rfl, hP, s₃, g₃, hst'⟩
    have H₃ := HH.step ok hI (nv _ _ hst) fr.new s₃ (G := fun p => p = o') fun o' e => e ▸ g₃
    refine (TP.of ((itr h stand).go i v h₃ o' hP g₃ hst')).mono ?_
    rintro _ h₄ rfl
    have le2 : ∀ b p, F' b p → (b ≠ I ∧ F1 b p) ∨ (b = I ∧ p = o') := fun b p e => .inl ⟨fun z => by subst z; exact fr.offF p e, le1 b p e⟩
    refine (as i hlt _ m1 l1 h₄ v H₃ ((rp i v hlt hP).mono le2 fun _ _ e => e)).mono ?_
    rintro _ h₅ ⟨m5, l5, H₅⟩
    refine (turn i hlt _ m5 l5 h₅ H₅).mono ?_
    intro f h₆ z
    cases f with
    | next =>
      obtain ⟨Γ', F6, m6, l6, le6, H₆, q⟩ := z
      exact ⟨k - 1, by (first | lia | omega), i + 1, F6, m6, l6, o', by (first | lia | omega), fun b p e => le6 b p (le2 b p e), H₆.weak q, le6 _ _ (.inr ⟨rfl, rfl⟩), hst'⟩
    | cont =>
      obtain ⟨Γ', F6, m6, l6, le6, H₆, q⟩ := z
      exact ⟨k - 1, by (first | lia | omega), i + 1, F6, m6, l6, o', by (first | lia | omega), fun b p e => le6 b p (le2 b p e), H₆.weak q, le6 _ _ (.inr ⟨rfl, rfl⟩), hst'⟩
    | brk =>
      obtain ⟨Γ', F6, m6, l6, le6, H₆, q⟩ := z
      exact ⟨Γ', F6, m6, l6, fun b p e => le6 b p (le2 b p (le b p e)), H₆, q⟩
    | ret v =>
      obtain ⟨p, Γ', F6, m6, l6, le6, H₆, r, q⟩ := z
      exact ⟨p, Γ', F6, m6, l6, fun b p e => le6 b p (le2 b p (le b p e)), H₆, r, q⟩
  · obtain rfl : i = n := by (first | lia | omega)
    refine (TP.of ((itr h stand).done h o Sub.refl gI hst)).mono ?_
    rintro r h₃ ⟨rfl, s₃⟩
    have H₃ := HH.step ok hI (nv _ _ hst) fr.new s₃ (G := fun _ => False) fun o' e => e.elim
    exact ⟨_, _, m1, l1, fun b p e => .inl ⟨fun z => by subst z; exact fr.offF p (le b p e), le1 b p (le b p e)⟩, H₃, fin⟩
theorem noval_lit {ax : Addr} {i : Nat} {o : Obj} (x : litS ax i o) : NoVal o := ⟨⟨_, by decide +kernel, x.1⟩, fun v hv => by rw [x.2] at hv; cases hv⟩
theorem noval_rit {a b : Int} {i : Nat} {o : Obj} (x : o = ritO a b i) : NoVal o := by
  subst x
  exact ⟨⟨"range_iterator", by decide +kernel, rfl⟩, fun v hv => by unfold ritO at hv; cases hv⟩
theorem It.listN (ok : FmOk X) {iter : PySem.Expr} {x : Str} {px : Pos} {xs : List PV} {P : Nat → PV} (ee : E X Γ iter (.list xs)) (hs : Safes xs) (hP : ∀ i, i < xs.length → xs[i]? = some (P i)) : It X Γ iter (.Name x px) xs.length P := fun F m l h H => (ee F m l h H).mono fun v h₁ ⟨F', le, H₁, r⟩ => by
  · obtain ⟨a, o, vs, rfl, hF, lst, rs⟩ := r.l
    have hl := lst.isList (H₁.fz _ _ hF).1
    have len := rs.length
    refine ⟨F', le, H₁, TP.of fun s es => ?_⟩
    subst es
    refine wpAny_pyIter_list hl ⟨_, s.toks, rfl, s.heap.objs.size, _, litS a, (fun i v => vs[i]? = some v), rfl, Sub.push _ _, get_size_none _, get_push_self _ _, ⟨rfl, rfl⟩, fun i o h => noval_lit h, fun h st => ?_, fun i v hi hv => ?_⟩
    · rw [← len]
      exact Iter.list ok.hh (lst.isList (st _ _ hF)) fun _ _ _ _ _ _ _ => T.eq rfl (T.pure rfl)
    · obtain ⟨v', e, r⟩ := rs.get (hP i hi)
      rw [hv] at e; cases e
      exact r.safe (hs.of _ (List.mem_of_getElem? (hP i hi)))
inductive EA (X : Fm) (Γ : Ctx) : List PySem.Expr → List PV → Prop
  | nil : EA X Γ [] []
  | cons {e : PySem.Expr} {p : PV} {es : List PySem.Expr} {ps : List PV} : E X Γ e p → EA X Γ es ps → EA X Γ (e :: es) (p :: ps)
theorem EA.t {es : List PySem.Expr} {ps : List PV} (x : EA X Γ es ps) : ∀ {F m l h}, Holds X Γ F m l h → TPArgs X.prog X.w X.A X.env es h fun vs h' => ∃ F', (∀ a o, F a o → F' a o) ∧ Holds X Γ F' m l h' ∧ Reps X.prog X.w F' (RS X l) vs ps := by
  induction x with
  | nil => exact fun {F m l h} H => ⟨F, fun _ _ e => e, H, .nil⟩
  | cons e1 _ ih =>
    intro F m l h H
    refine (e1 F m l h H).mono fun v h₁ ⟨F₁, le₁, H₁, r₁⟩ => (ih H₁).mono fun vs h₂ ⟨F₂, le₂, H₂, r₂⟩ => ⟨F₂, fun a o e => le₂ a o (le₁ a o e), H₂, .cons (r₁.mono le₂ fun _ _ e => e) r₂⟩
theorem call_T {f : Str} {pf pos : Pos} {fv : Value} {es : List PySem.Expr} {ps : List PV} {Q : Value → Heap → Prop} (ef : E X Γ (.Name f pf) (.raw fv)) (ea : EA X Γ es ps) (H : Holds X Γ F m l h)
    (k : ∀ F' h' vs, (∀ a o, F a o → F' a o) → Holds X Γ F' m l h' → Reps X.prog X.w F' (RS X l) vs ps → Keeps X.prog X.w fv h' ∧ TP X.prog X.w X.A (PySem.call fv vs) h' Q) (hst : noStars es = true) :
    TP X.prog X.w X.A (eval (.Call (.Name f pf) es [] pos) X.env) h Q := TP.Call_Name ((ef F m l h H).mono fun v h₁ ⟨F₁, le₁, H₁, r₁⟩ => by
      obtain rfl := r₁.r
      exact TP.callWith ((ea.t H₁).mono fun vs h₂ ⟨F₂, le₂, H₂, r₂⟩ => k F₂ h₂ vs (fun a o e => le₂ a o (le₁ a o e)) H₂ r₂) hst)
theorem It.range1 (ok : FmOk X) {x f : Str} {px pf pos : Pos} {e : PySem.Expr} {n : Nat} (ef : E X Γ (.Name f pf) (.raw (.type "range"))) (ee : E X Γ e (.int n)) (hn : n ≤ 1000000) (hst : noStars [e] = true) : It X Γ (.Call (.Name f pf) [e] [] pos) (.Name x px) n (fun i => .int i) := fun F m l h H => by
  refine call_T ef (.cons ee .nil) H (fun F₁ h₁ vs le₁ H₁ rs => ⟨Keeps.type, ?_⟩) hst
  obtain ⟨_, rfl, r1⟩ := rs.one
  obtain ⟨t, rfl⟩ := r1.i
  refine TP.of fun s es => ?_
  subst es
  refine call_range_1 ⟨_, _, rfl, F₁, le₁, H₁.sub (Sub.push _ _), TP.of fun s₁ es₁ => ?_⟩
  have hR := IsRange.new s.heap 0 n 1 s.toks t (s.toks + 1)
  rw [← es₁] at hR
  have hsz : Builtin.Range.rangeSize 0 n 1 = (n : Int) - 0 := by rw [rangeSize_one]; split <;> (first | lia | omega)
  refine wpAny_pyIter_range hR (small_one (by (first | lia | omega)) (by (first | lia | omega)) (by (first | lia | omega)) (by (first | lia | omega))) ⟨_, s₁.toks, rfl, s₁.heap.objs.size, ritO 0 n 0, (fun i o => o = ritO 0 n i), (fun i v => ∃ t, v = .int (0 + (i : Int)) t), rfl, ?_, ?_, ?_, rfl, fun i o h => noval_rit h, fun h _ => ?_, fun i v hi hv => ?_⟩
  · rw [← es₁]; exact Sub.push _ _
  · rw [← es₁]; exact get_size_none _
  · have := get_push_self s₁.heap { cls := .type "range_iterator", data := .fields #[rawInt 0, rawInt (Builtin.Range.rangeSize 0 n 1), rawInt 1] }
    rw [this, hsz, ritO]
    simp
  · have := Iter.range (prog := X.prog) (w := X.w) (A := X.A) (I := s₁.heap.objs.size) (hb := h) (a := 0) (b := n) (x := x) (px := px) ok.hh (by (first | lia | omega))
    rwa [show ((n : Int) - 0).toNat = n by (first | lia | omega)] at this
  · obtain ⟨t, rfl⟩ := hv
    rw [show (0 : Int) + (i : Int) = i by (first | lia | omega)]
    exact .int _ _
end
end Mine

end
section
open PySem PySem.W PyProof.Rows PySem.Calls
set_option Elab.async false
set_option linter.unusedVariables false
set_option maxRecDepth 100000
set_option maxHeartbeats 4000000
namespace Mine
noncomputable def scEnv (s : Scope) : Env := { scope := s, locals := 0, globals := mainGlobals, cells := [] }
structure Sc (X : Fm) (s : Scope) (cn : List Str) : Prop where
  s : X.env.scope = s
  c : X.env.cells.map (·.1) = cn
theorem Sc.kind {X : Fm} {s : Scope} {cn : List Str} (sc : Sc X s cn) (x : Str) : X.env.kindOf x = s.names.lookup x := by unfold Env.kindOf; rw [sc.s]
noncomputable def closL (cells : List (Str × Addr)) (names : List (Str × NameKind)) (acc : List (Str × Addr)) : List (Str × Addr) :=
  names.foldl (fun cs y => if y.2 == .free then (y.1, (cells.lookup y.1).getD 0) :: cs else cs) acc
noncomputable def closN (names : List (Str × NameKind)) : List Str := names.foldl (fun cs y => if y.2 == .free then y.1 :: cs else cs) []
theorem closL_map {cells : List (Str × Addr)} : ∀ (names : List (Str × NameKind)) (acc : List (Str × Addr)), (closL cells names acc).map (·.1) = names.foldl (fun cs y => if y.2 == .free then y.1 :: cs else cs) (acc.map (·.1))
  | [], _ => rfl
  | y :: r, acc => by
    have := closL_map (cells := cells) r (if y.2 == .free then (y.1, (cells.lookup y.1).getD 0) :: acc else acc)
    unfold closL at this ⊢
    rw [List.foldl_cons, List.foldl_cons, this]
    split <;> rfl
theorem closL_look {cells : List (Str × Addr)} {x : Str} {c : Addr} : ∀ (names : List (Str × NameKind)) (acc : List (Str × Addr)), (∀ y ∈ names, y.2 = .free → (cells.lookup y.1).isSome = true) → (acc.lookup x = some c → cells.lookup x = some c) → (closL cells names acc).lookup x = some c → cells.lookup x = some c
  | [], _, _, ha, e => ha e
  | y :: r, acc, hn, ha, e => by
    unfold closL at e
    rw [List.foldl_cons] at e
    refine closL_look r _ (fun z hz => hn z (.tail _ hz)) ?_ e
    by_cases hy : y.2 = .free
    · have hb : (y.2 == NameKind.free) = true := by rw [hy]; rfl
      rw [if_pos hb]
      intro q
      by_cases hx : x = y.1
      · subst hx
        simp at q
        have := hn y (.head _) hy
        obtain ⟨d, hd⟩ := Option.isSome_iff_exists.mp this
        rw [hd] at q ⊢; simp at q; rw [q]
      · rw [List.lookup_cons] at q
        have : (x == y.1) = false := by simpa using hx
        rw [this] at q
        exact ha q
    · have hb : (y.2 == NameKind.free) = false := by cases h : y.2 <;> simp_all
      rw [hb]; exact ha
theorem closL_has {cells : List (Str × Addr)} {x : Str} : ∀ (names : List (Str × NameKind)) (acc : List (Str × Addr)), ((acc.lookup x).isSome = true ∨ (x, NameKind.free) ∈ names) → ((closL cells names acc).lookup x).isSome = true
  | [], _, h => h.elim id (by first | walk_at "mem" | simp)
  | y :: r, acc, h => by
    unfold closL
    rw [List.foldl_cons]
    refine closL_has r _ ?_
    rcases h with h | h
    · left
      split
      · rw [List.lookup_cons]; split <;> simp [h]
      · exact h
    · rcases List.mem_cons.mp h with h | h
      · left; subst h; simp
      · exact .inr h
theorem closure_eq {scope : Scope} {env : Env} (hn : ∀ y ∈ scope.names, y.2 = .free → (env.cells.lookup y.1).isSome = true) : closureFor scope env = pure (closL env.cells scope.names []) := by
  unfold closureFor closL
  have : ∀ (names : List (Str × NameKind)) (acc : List (Str × Addr)), (∀ y ∈ names, y.2 = .free → (env.cells.lookup y.1).isSome = true) →
      (forIn names acc fun (x : Str × NameKind) (cs : List (Str × Addr)) => (if (x.2 == NameKind.free) = true then do let c ← cellOf env x.1; pure (ForInStep.yield ((x.1, c) :: cs)) else pure (ForInStep.yield cs) : Sem _)) = pure (names.foldl (fun cs y => if y.2 == .free then (y.1, (env.cells.lookup y.1).getD 0) :: cs else cs) acc) := by
    intro names
    induction names with
    | nil => intro acc _; rfl
    | cons y r ih =>
      intro acc hn
      rw [List.forIn_cons, List.foldl_cons]
      by_cases hy : (y.2 == NameKind.free) = true
      · rw [if_pos hy, if_pos hy]
        have h2 : y.2 = .free := by cases q : y.2 <;> simp_all
        obtain ⟨c, hc⟩ := Option.isSome_iff_exists.mp (hn y (.head _) h2)
        have e : cellOf env y.1 = pure c := by unfold cellOf; rw [hc]
        rw [e, hc]
        exact ih _ fun z hz => hn z (.tail _ hz)
      · rw [if_neg hy, if_neg hy]
        exact ih _ fun z hz => hn z (.tail _ hz)
  have t := this scope.names [] hn
  first
    | exact t
    | (rw [← t]; rfl)
    | (simp only [t]; rfl)
theorem lookup_some_of_mem {cells : List (Str × Addr)} {x : Str} (h : x ∈ cells.map (·.1)) : (cells.lookup x).isSome = true := by
  induction cells with
  | nil => simp at h
  | cons y r ih =>
    rw [List.lookup_cons]
    by_cases e : x = y.1
    · subst e; simp
    · have : (x == y.1) = false := by simpa using e
      rw [this]
      exact ih (by simpa [e] using h)
noncomputable def compOk (s : Scope) (cn : List Str) (scope : Scope) : Bool :=
  (scope.names.all fun y => y.2 != .cell) && (scope.names.all fun y => y.2 != .local || decide (scope.names.lookup y.1 = some .local)) && (scope.names.all fun y => y.2 != .free || cn.contains y.1)
noncomputable def cellIn (s : Scope) (scope : Scope) (x : Str) : Bool := decide (s.names.lookup x = some .cell) && decide ((relabel scope (scEnv s)).names.lookup x = some .cell) && decide ((x, NameKind.free) ∈ scope.names)
noncomputable def inC : Bind → Bind
  | .fz p => .fz p
  | .own _ p => .fz (rd p)
  | .mat _ _ _ => .fz (.raw .none)
  | .nest _ _ => .fz (.raw .none)
noncomputable def noMat : Bind → Bool
  | .mat _ _ _ => false
  | .nest _ _ => false
  | _ => true
noncomputable def CompCtx (s scope : Scope) (Γ Γc : Ctx) : Prop := ∀ x b, Γc.lookup x = some b → ∃ b', Γ.lookup x = some b' ∧ b = inC b' ∧ cellIn s scope x = true ∧ noMat b' = true
theorem cctx_nil {s scope : Scope} {Γ : Ctx} : CompCtx s scope Γ [] := fun x b e => by simp at e
theorem cctx_cons {s scope : Scope} {Γ Γc : Ctx} {x : Str} {b : Bind} (h1 : Γ.lookup x = some b) (h2 : cellIn s scope x = true) (hm : noMat b = true) (r : CompCtx s scope Γ Γc) : CompCtx s scope Γ ((x, inC b) :: Γc) := fun y c e => by
  rw [List.lookup_cons] at e
  by_cases z : y = x
  · subst z; simp at e; subst e; exact ⟨b, h1, rfl, h2, hm⟩
  · have : (y == x) = false := by simpa using z
    rw [this] at e; exact r y c e
structure SameTop (X X' : Fm) : Prop where
  prog : X'.prog = X.prog
  w : X'.w = X.w
  A : X'.A = X.A
  K : X'.K = X.K
  rd : X'.rd = X.rd
section
variable {X : Fm} {Γ Γ' Γc : Ctx} {F F' : Store} {m : Str → Option Value} {l : List (Addr × Obj)} {h h' : Heap} {Q : Out → Prop} {rest : List Stmt} {s : Scope} {cn : List Str}
noncomputable def TB (X : Fm) (Γ : Ctx) (ifs : List PySem.Expr) (b : Bool) : Prop := ∀ F m l h, Holds X Γ F m l h → TP X.prog X.w X.A (compTests X.env ifs) h fun c h' => ∃ F', (∀ a o, F a o → F' a o) ∧ Holds X Γ F' m l h' ∧ c = b
theorem TB.nil : TB X Γ [] true := fun F m l h H => p_tests0 ⟨F, fun _ _ e => e, H, rfl⟩
theorem TB.one {c : PySem.Expr} {b : Bool} (t : B X Γ c b) : TB X Γ [c] b := fun F m l h H => p_tests1 (t F m l h H)
theorem Holds.ledU (H : Holds X Γ F m l h) (hno : ∀ x b, Γ.lookup x = some b → b.addrs = []) {i : Nat} {a : Addr} {o o' : Obj} (hi : l[i]? = some (a, o)) (n : ∀ v, ¬ IsCel o v) (n' : ∀ v, ¬ IsCel o' v) (sb : Sub [a] h h') (ho : h'.get? a = some o') : Holds X Γ F m (l.set i (a, o')) h' := by
  have hl : (a, o) ∈ l := List.mem_of_getElem? hi
  have ncel : ∀ {c oc u}, (c, oc) ∈ l → IsCel oc u → c ≠ a := fun h1 h2 z => by
    subst z
    rw [H.s.one h1 hl] at h2
    exact n _ h2
  refine { s := H.s.upd i hi sb ho, fz := fun b q e => ⟨sb _ _ ?_ (H.fz b q e).1, (H.fz b q e).2.1, (map_set hi) ▸ (H.fz b q e).2.2⟩, fn := H.fn, f0 := H.f0, nm := fun y c e => ?_, inj := fun y z q r b e1 _ a1 _ => absurd a1 (by rw [hno _ _ e1]; exact fun q => nomatch q), cel := fun y c e1 e2 => ?_ }
  · have := (H.fz b q e).2.2
    intro z
    obtain rfl : b = a := by simpa using z
    exact this (List.mem_map_of_mem (f := (·.1)) hl)
  · obtain ⟨u, lk, bo⟩ := H.nm y c e
    exact ⟨u, lk.imp id fun ⟨c, oc, k1, k2, k3, k4⟩ => ⟨c, oc, k1, k2, k3.imp (fun q => mem_set hi q (ncel q k4)) id, k4⟩, bo.mono (fun _ _ e => e) fun a o ha => by
      rw [hno _ _ e] at ha; cases ha⟩
  · obtain ⟨oc, v, h1, h2⟩ := H.cel y c e1 e2
    exact ⟨oc, v, mem_set hi h1 (ncel h1 h2), h2⟩
theorem Holds.grow (H : Holds X Γ F m l h) (le : ∀ a o, F a o → F' a o) (h1 : ∀ a o, F' a o → h.get? a = some o ∧ a ≠ X.env.locals ∧ a ∉ l.map (·.1)) (h2 : ∀ a o, F' a o → X.F₀ a o ∨ X.h₀.get? a = none) : Holds X Γ F' m l h where
  s := H.s
  fz := h1
  fn := h2
  f0 := fun a o e => le a o (H.f0 a o e)
  nm := fun x b e => by
    obtain ⟨v, lk, bo⟩ := H.nm x b e
    exact ⟨v, lk, bo.mono le fun _ _ _ e => e⟩
  inj := H.inj
  cel := H.cel
theorem comp_loop (ok : FmOk X) (sc : Sc X s cn) {elt target iter : PySem.Expr} {ifs : List PySem.Expr} {scope : Scope} {pos : Pos} {n : Nat} {P : Nat → PV} {b : Nat → Bool} {g : Nat → PV} {env' : Env} {acc I : Addr} {oacc oI : Obj} {h₁ h₃ : Heap} {St : Nat → Obj → Prop} {Pv : Nat → Value → Prop} {F₁ : Store}
    (hcell : compOk s cn scope = true) (hcc : CompCtx s scope Γ Γc)
    (body : ∀ X' : Fm, FmOk X' → Sc X' (relabel scope (scEnv s)) (closN scope.names) → SameTop X X' → ∀ i, i < n → ∃ Γ1, (∀ x b, Γ1.lookup x = some b → b.addrs = []) ∧ (∀ x b, Γc.lookup x = some b → Γ1.lookup x = some b) ∧ AsL X' Γc target (P i) Γ1 ∧ TB X' Γ1 ifs (b i) ∧ (b i = true → E X' Γ1 elt (g i)))
    (hg : ∀ i, i < n → b i = true → Safe (g i)) (hn : n ≤ 1000000)
    (H₁ : Holds X Γ F₁ m l h₁) (itr : Iter X.prog X.w X.A I h₁ n Pv St target) (nv : ∀ i o, St i o → NoVal o) (st : St 0 oI) (rp : ∀ i v, i < n → Pv i v → Rep X.prog X.w F₁ (RS X l) v (P i))
    (e' : EnvOk env') (hsc : env'.scope = relabel scope X.env) (hcl : env'.cells = closL X.env.cells scope.names []) (la : IsLst oacc [])
    (H : S h₁ [] env'.locals (fun _ => none) ([(acc, oacc)] ++ [(I, oI)]) h₃) :
    TLP X.prog X.w X.A (.compLoop (.ListComp elt [⟨target, iter, ifs, 0⟩] scope pos) 0 (.ref I) (.ref acc) env') h₃ fun h' => (∃ m₁, h'.Ns env'.locals m₁) ∧ h₁.get? env'.locals = none ∧ ∃ F' o, (∀ a o, F₁ a o → F' a o) ∧ Holds X Γ F' m l h' ∧ h'.get? acc = some o ∧ Fresh X F' l acc ∧ ORep X.prog X.w F' (RS X l) o (.list (((List.range n).filter b).map g)) ∧ acc ≠ env'.locals ∧ (∀ a o, F' a o → a ≠ env'.locals) := by
  simp only [compOk, Bool.and_eq_true] at hcell
  obtain ⟨⟨k1, k2⟩, k3⟩ := hcell
  have hfree : ∀ y ∈ scope.names, y.2 = .free → (X.env.cells.lookup y.1).isSome = true := fun y hy hf => by
    have := List.all_eq_true.mp k3 y hy
    rw [hf] at this
    refine lookup_some_of_mem ?_
    rw [sc.c]
    simpa using this
  have hss : X.env.scope = (scEnv s).scope := sc.s
  let X' : Fm := ⟨X.prog, X.w, X.A, env', h₁, [], F₁, RS X l, X.K, X.rd⟩
  have ok' : FmOk X' := {
    e := e'
    hh := ok.hh
    gr := fun h q => ok.gr h fun b o nb eb => q b o (fun z => by cases z) (H₁.s.base b o nb eb)
    f0 := fun a o e => ⟨(H₁.fz a o e).1, fun z => by cases z⟩
    xr := fun a o e => ⟨H₁.rs ok e, fun z => by cases z⟩
    cinj := fun x y c e1 e2 => by
      have e1 : (closL X.env.cells scope.names []).lookup x = some c := hcl ▸ e1
      have e2 : (closL X.env.cells scope.names []).lookup y = some c := hcl ▸ e2
      exact ok.cinj x y c (closL_look _ _ hfree (by first | walk_at "mem" | simp) e1) (closL_look _ _ hfree (by first | walk_at "mem" | simp) e2)
    room := ok.room
    units := ok.units }
  have sc' : Sc X' (relabel scope (scEnv s)) (closN scope.names) := ⟨hsc.trans (relabel_of hss), by
    show env'.cells.map (·.1) = _
    rw [hcl, closL_map]; rfl⟩
  have top : SameTop X X' := ⟨rfl, rfl, rfl, rfl, rfl⟩
  have Hc : ∀ {m' l' h}, S h₁ [] env'.locals m' l' h → (∀ p ∈ l', ∀ a o, F₁ a o → p.1 ≠ a) → Holds X' Γc F₁ m' l' h := fun {m' l' h} HS off => {
    s := HS
    fz := fun a o e => by
      have e1 := (H₁.fz a o e).1
      refine ⟨HS.base a o (by first | walk_at "mem" | simp) e1, fun z => ?_, fun z => ?_⟩
      · have : h₁.get? env'.locals = none := HS.newL
        rw [← z] at this
        rw [e1] at this; cases this
      · obtain ⟨p, hp, q⟩ := List.mem_map.mp z
        exact off p hp a o e q
    fn := fun a o e => .inl e
    f0 := fun a o e => e
    nm := fun x c e => by
      obtain ⟨c', e1, e2, e3, e4⟩ := hcc x c e
      obtain ⟨v, lk, bo⟩ := H₁.nm x c' e1
      simp only [cellIn, Bool.and_eq_true, decide_eq_true_eq] at e3
      obtain ⟨⟨q1, q2⟩, q3⟩ := e3
      have kc : X.env.kindOf x = some .cell := by rw [sc.kind]; exact q1
      rcases lk with ⟨k, _⟩ | ⟨d, od, k, hc, ho, hv⟩
      · rw [kc] at k; cases k
      · refine ⟨v, .inr ⟨d, od, ?_, ?_, .inr (ho.elim .inr .inl), hv⟩, ?_⟩
        · show env'.kindOf x = _
          unfold Env.kindOf
          rw [hsc, relabel_of hss]; exact q2
        · show env'.cells.lookup x = _
          rw [hcl]
          obtain ⟨d', hd⟩ := Option.isSome_iff_exists.mp (closL_has (cells := X.env.cells) (x := x) scope.names [] (.inr q3))
          rw [hd]
          have := closL_look _ _ hfree (by first | walk_at "mem" | simp) hd
          rw [hc] at this; exact this.symm
        · subst e2
          cases c' with
          | fz p => exact bo.toRS
          | mat d C P => cases e4
          | nest as xss => cases e4
          | own a p =>
            obtain ⟨o, rfl, h2, h3⟩ := bo
            cases h3 with
            | list h1 h2' => exact .rlist (.inr h2) h1 (h2'.mono (fun _ _ e => e) fun _ _ e => .inl e)
            | dict h1 h2' h3 => exact .rdict (.inr h2) h1 h2' (h3.mono (fun _ _ e => e) fun _ _ e => .inl e)
    inj := fun x y p q a e1 _ a1 => by
      obtain ⟨c', _, e2, _⟩ := hcc x _ e1
      subst e2
      cases c' <;> cases a1
    cel := fun x c e1 e2 => by
      exfalso
      have e1 : (closL X.env.cells scope.names []).lookup x = some c := hcl ▸ e1
      have e3 := closL_look _ _ hfree (by first | walk_at "mem" | simp) e1
      have e2 : h₁.get? c = none := e2
      by_cases hx : X.h₀.get? c = none
      · obtain ⟨oc, v, a1, a2⟩ := H₁.cel x c e3 hx
        rw [H₁.s.led _ a1] at e2; cases e2
      · cases q : X.h₀.get? c with
        | none => exact hx q
        | some oc =>
          by_cases hD : c ∈ X.D
          · obtain ⟨p, hp, rfl⟩ := List.mem_map.mp (H₁.s.dl c hD)
            rw [H₁.s.led _ hp] at e2; cases e2
          · rw [H₁.s.base c oc hD q] at e2; cases e2 }
  have ncl : ∀ {o vs}, IsLst o vs → ∀ v, ¬ IsCel o v := fun {o vs} hl v hv => by
    obtain ⟨n, rfl⟩ := hl; cases hv
  have nocc : ∀ x b, Γc.lookup x = some b → b.addrs = [] := fun x p e => by
    obtain ⟨c', _, e2, _⟩ := hcc x _ e
    subst e2
    cases c' <;> rfl
  have off0 : ∀ p ∈ [(acc, oacc)] ++ [(I, oI)], ∀ a o, F₁ a o → p.1 ≠ a := fun p hp a o e q => by
    have e1 := (H₁.fz a o e).1
    rcases H.own p hp with z | z
    · cases z
    · rw [q, e1] at z; cases z
  have dn : acc ≠ I := by
    have := H.nodup
    simpa using this
  refine tlp_loop (fun k h => ∃ i F1 m1 oa vs o, k + i = n ∧ (∀ a o, F₁ a o → F1 a o) ∧ Holds X' Γc F1 m1 [(acc, oa), (I, o)] h ∧ IsLst oa vs ∧ Reps X.prog X.w F1 (RS X l) vs (((List.range i).filter b).map g) ∧ St i o) ?_ n ⟨0, F₁, _, oacc, [], oI, rfl, fun _ _ e => e, Hc H off0, la, .nil, st⟩
  rintro k h ⟨i, F1, m1, oa, vs, o, hk, le1, HH, lv, rv, hst⟩
  have HS : S h₁ [] env'.locals m1 [(acc, oa), (I, o)] h := HH.s
  have gI : h.get? I = some o := HS.get (by first | walk_at "mem" | simp)
  by_cases hlt : i < n
  · refine (TP.of (itr.item i h o hlt HS.base gI hst)).mono ?_
    rintro r h₄ ⟨v, o', rfl, hP, s₄, g₄, hst'⟩
    have H₄ : Holds X' Γc F1 m1 [(acc, oa), (I, o')] h₄ := HH.ledU nocc (i := 1) (a := I) (o := o) rfl (nv _ _ hst).2 (nv _ _ hst').2 s₄ g₄
    refine (TP.of (itr.go i v h₄ o' hP g₄ hst')).mono ?_
    rintro _ h₅ rfl
    obtain ⟨Γ1, no1, up1, as1, tb1, el1⟩ := body X' ok' sc' top i hlt
    have rv1 : Rep X.prog X.w F1 (RS X l) v (P i) := (rp i v hlt hP).mono le1 fun _ _ e => e
    refine TP.mono (as1 F1 m1 _ h₅ v H₄ rv1) ?_
    rintro _ h₆ ⟨F6, m6, le6, H₆⟩
    refine TP.mono (tb1 F6 m6 _ h₆ H₆) ?_
    rintro c h₇ ⟨F7, le7, H₇, rfl⟩
    have lenb : ((List.range i).filter b).length ≤ i := Nat.le_trans (List.length_filter_le _ _) (by first | walk_at "mem" | simp)
    have step : ∀ {i}, ((List.range (i + 1)).filter b).map g = ((List.range i).filter b).map g ++ (if b i = true then [g i] else []) := fun {i} => by
      rw [List.range_succ, List.filter_append, List.map_append]
      congr 1
      by_cases hb : b i = true <;> simp [hb]
    cases hb : b i with
    | false =>
      refine ⟨k - 1, by (first | lia | omega), i + 1, F7, m6, oa, vs, o', by (first | lia | omega), fun a o e => le7 a o (le6 a o (le1 a o e)), H₇.weak up1, lv, ?_, hst'⟩
      rw [step, hb]
      simpa using rv.mono (fun a o e => le7 a o (le6 a o e)) fun _ _ e => e
    | true =>
      refine TP.mono (el1 hb F7 m6 _ h₇ H₇) ?_
      rintro x h₈ ⟨F8, le8, H₈, r8⟩
      have r8' : Rep X.prog X.w F8 (RS X l) x (g i) := Rep.safe (R' := RS X l) r8 (hg i hlt hb)
      have lv' := rv.length
      have lmap : (((List.range i).filter b).map g).length ≤ i := by rw [List.length_map]; exact lenb
      refine TP.of (t_append (H₈.s.get (by first | walk_at "mem" | simp)) lv (by rw [sizeLine_eq]; (first | lia | omega)) fun h₉ o₉ s₉ g₉ l₉ => ?_)
      have H₉ : Holds X' Γ1 F8 m6 [(acc, o₉), (I, o')] h₉ := H₈.ledU no1 (i := 0) (a := acc) (o := oa) rfl (ncl lv) (ncl l₉) s₉ g₉
      refine ⟨k - 1, by (first | lia | omega), i + 1, F8, m6, o₉, _, o', by (first | lia | omega), fun a o e => le8 a o (le7 a o (le6 a o (le1 a o e))), H₉.weak up1, l₉, ?_, hst'⟩
      rw [step, if_pos hb]
      exact (rv.mono (fun a o e => le8 a o (le7 a o (le6 a o e))) fun _ _ e => e).append (.cons r8' .nil)
  · obtain rfl : i = n := by (first | lia | omega)
    refine (TP.of (itr.done h o HS.base gI hst)).mono ?_
    rintro r h₄ ⟨rfl, s₄⟩
    have HB : S h₁ [] env'.locals m1 [(acc, oa)] h₄ := (HS.drop (l' := [(acc, oa)]) (by first | walk_at "mem" | simp) (by first | walk_at "mem" | simp)).keepBut s₄ fun b hb => by
      obtain rfl : b = I := by simpa using hb
      refine ⟨by simp, (HS.own (b, o) (by first | walk_at "mem" | simp)).resolve_left (by first | walk_at "mem" | simp), fun z => HS.offL (by simp [z]), by simpa using dn.symm⟩
    have nacc : h₁.get? acc = none := (HS.own (acc, oa) (by first | walk_at "mem" | simp)).resolve_left (by first | walk_at "mem" | simp)
    have std : ∀ a o, F1 a o → h₄.get? a = some o := fun a o e => s₄ _ _ (fun z => by
      obtain rfl : a = I := by simpa using z
      exact (HH.fz a o e).2.2 (by first | walk_at "mem" | simp)) (HH.fz a o e).1
    have fr1 := H₁.fresh nacc
    have H₄ := H₁.sub HB.base
    have HG : Holds X Γ F1 m l h₄ := H₄.grow le1 (fun a o e => ?_) fun a o e => ?_
    · refine ⟨⟨m1, HB.ns⟩, HB.newL, F1, oa, le1, HG, HB.get (by first | walk_at "mem" | simp), ⟨fr1.new, fr1.offL, fr1.offl, fun o e => (HH.fz acc o e).2.2 (by first | walk_at "mem" | simp)⟩, .list lv rv, fun z => HS.offL (by simp [← z]), fun a o e => (HH.fz a o e).2.1⟩
    · refine ⟨std a o e, ?_⟩
      rcases HH.fn a o e with q | q
      · exact (H₁.fz a o q).2
      · exact (H₁.s.fresh q).2
    · rcases HH.fn a o e with q | q
      · exact H₁.fn a o q
      · exact .inr (H₁.s.fresh q).1
end
end Mine

end
section
open PySem PySem.W PyProof.Rows PySem.Calls
set_option Elab.async false
set_option linter.unusedVariables false
set_option maxRecDepth 100000
set_option maxHeartbeats 4000000
namespace Mine
theorem TLP.mono {prog : Program} {w : World} {A : Around} {c : Code} {h : Heap} {Q Q' : Heap → Prop} (x : TLP prog w A c h Q) (q : ∀ h, Q h → Q' h) : TLP prog w A c h Q' := fun s e hp =>
  codeAny_mono (x s e hp) (by rintro r s' ⟨h', tk, rfl, rfl, hp, z⟩; exact ⟨h', tk, rfl, rfl, hp, q _ z⟩)
section
variable {X : Fm} {Γ Γ' Γc : Ctx} {F F' : Store} {m : Str → Option Value} {l : List (Addr × Obj)} {h h' : Heap} {Q : Out → Prop} {rest : List Stmt} {s : Scope} {cn : List Str}
theorem Holds.off (H : Holds X Γ F m l h) {C : Addr} (h0 : X.h₀.get? C = none) (hL : C ≠ X.env.locals) (hl : C ∉ l.map (·.1)) (hF : ∀ a o, F a o → a ≠ C) (sb : Sub [C] h h') : Holds X Γ F m l h' where
  s := H.s.keepBut sb fun b hb => by
    obtain rfl : b = C := by simpa using hb
    exact ⟨fun q => hl (H.s.dl _ q), h0, hL, hl⟩
  fz := fun a o e => ⟨sb _ _ (by simpa using hF a o e) (H.fz a o e).1, (H.fz a o e).2⟩
  fn := H.fn
  f0 := H.f0
  nm := H.nm
  inj := H.inj
  cel := H.cel
theorem N.comp (ok : FmOk X) (sc : Sc X s cn) (Γc : Ctx) {elt target iter : PySem.Expr} {ifs : List PySem.Expr} {scope : Scope} {pos : Pos} {n : Nat} {P : Nat → PV} (b : Nat → Bool) (g : Nat → PV)
    (hcell : compOk s cn scope = true) (hkind : scope.kind = .function) (hcc : CompCtx s scope Γ Γc) (it : ItC X Γ iter target n P) (hn : n ≤ 1000000)
    (body : ∀ X' : Fm, FmOk X' → Sc X' (relabel scope (scEnv s)) (closN scope.names) → SameTop X X' → ∀ i, i < n → ∃ Γ1, (∀ x b, Γ1.lookup x = some b → b.addrs = []) ∧ (∀ x b, Γc.lookup x = some b → Γ1.lookup x = some b) ∧ AsL X' Γc target (P i) Γ1 ∧ TB X' Γ1 ifs (b i) ∧ (b i = true → E X' Γ1 elt (g i)))
    (hg : ∀ i, i < n → b i = true → Safe (g i)) (hs : ∀ x, foldedSetIterable iter X.env x = pure x := by intro _; rfl) : N X Γ (.ListComp elt [⟨target, iter, ifs, 0⟩] scope pos) (.list (((List.range n).filter b).map g)) := fun F m l h H s₀ es hp₀ => by
  subst es
  rw [eval_ListComp]
  have hc2 := hcell
  simp only [compOk, Bool.and_eq_true] at hc2
  obtain ⟨⟨k1, k2⟩, k3⟩ := hc2
  have hfree : ∀ y ∈ scope.names, y.2 = .free → (X.env.cells.lookup y.1).isSome = true := fun y hy hf => by
    have := List.all_eq_true.mp k3 y hy
    rw [hf] at this
    refine lookup_some_of_mem ?_
    rw [sc.c]
    simpa using this
  obtain ⟨hcell', hnames'⟩ := comp_looks k1 k2
  refine wpAny_comprehension_free (use := none) rfl hs (closure_eq hfree) hkind hnames' (wpAny_mono (it F m l _ H _ rfl hp₀) ?_ fun _ _ z => z.elim)
  rintro xv s₁ ⟨h₁, t₁, rfl, hp₁, F₁, le₁, H₁, hit⟩
  refine wpAny_mono (hit _ rfl hp₁) ?_ fun _ _ z => z.elim
  rintro itv s₂ ⟨h₂, t₂, rfl, hp₂, I, oI, St, Pv, rfl, sub₂, nI, gI, st0, nv, itr, rp⟩
  have Itr := itr (fun a o e => (H₁.fz a o e).1) fun a o e => H₁.rs ok e
  refine comp_coreP (s := s₀) (RR := fun acc C => compPost (model X.prog X.w) X.A (fun _ _ => False) none (fun v s' => ∃ h' tk, s' = { s₀ with heap := h', toks := tk } ∧ 0 < tk ∧ ∃ F' a o, (∀ a o, F a o → F' a o) ∧ Holds X Γ F' m l h' ∧ v = .ref a ∧ h'.get? a = some o ∧ Fresh X F' l a ∧ ORep X.prog X.w F' (RS X l) o (.list (((List.range n).filter b).map g))) acc C) ok.e hcell' hkind hp₂ sub₂ nI gI st0 Itr ?_
  intro env' acc oacc h₃ e' sc' cl' lacc HH
  refine (comp_loop ok sc hcell hcc body hg hn H₁ Itr nv st0 rp e' sc' cl' lacc HH).mono ?_
  rintro h' ⟨⟨m₁, ns⟩, hC, F', o, le', H', ho, fr, oR, nC, FC⟩ tk hpk
  refine ⟨m₁, ns, fun h'' hs'' => ⟨h'', tk, rfl, hpk, F', acc, o, fun a o e => le' a o (le₁ a o e), ?_, rfl, ?_, fr, oR⟩⟩
  · obtain ⟨f1, f2, f3⟩ := H₁.s.fresh hC
    exact H'.off f1 f2 f3 FC (Sub.same hs'')
  · exact (hs''.2 acc nC).trans ho
end

theorem call_cellsP {prog : Program} {w : World} {A : Around} {s : Shared} {R : Result → Shared → Prop} {a : Addr} {o : Obj} {fd : FuncData} {body : List Stmt} {vals : List Value} {binds : List (Str × Value)}
    (hroom : A.depth < recursionLimit) (ho : s.heap.get? a = some o) (hdata : o.data = .func fd) (hlim : s.heap.NoLimit) (hcd : s.heap.CodeRec fd.code fd.qualname)
    (hbody : fd.body = .stmts body) (hbind : bindArgs fd ⟨vals, []⟩ = pure binds) (hclo : fd.closure = [])
    (hkind : ∀ x ∈ binds, fd.scope.names.lookup x.1 = some .local ∨ (fd.scope.names.lookup x.1 = some .cell ∧ ((cellsFrom (s.heap.objs.size + 1) fd.scope.names []).lookup x.1).isSome = true))
    (h : ∀ s₁, InCallC s (callEnvC fd s.heap.objs.size a).locals (bindL (callEnvC fd s.heap.objs.size a).kindOf binds fun _ => none) (callEnvC fd s.heap.objs.size a).cells
        (bindC (callEnvC fd s.heap.objs.size a).kindOf binds fun _ => none) s₁ → s.toks ≤ s₁.toks →
      wpAny (model prog w) (A.deeper (callEnvC fd s.heap.objs.size a)) (execs body (callEnvC fd s.heap.objs.size a)) (fun f s' => R (.ok (.ret (match f with | .ret v => v | _ => .none))) s')
        (fun e s' => wpAny (model prog w) (A.deeper (callEnvC fd s.heap.objs.size a)) (leaving (callEnvC fd s.heap.objs.size a) e) (fun _ s'' => R (.error e) s'') (fun e' s'' => R (.error e') s'') s') s₁)
    (hco : fd.scope.isCoroutine = false) (hgen : fd.scope.isGenerator = false) (hk : fd.scope.kind = .function) :
    codeAny (model prog w) A (.call (.ref a) ⟨vals, []⟩) R s := by
  refine codeAny_call_function hroom ho hdata hco hgen hbody hcd ?_
  rw [hbind, hclo]
  refine wpAny_pure (wpAny_mono (wpAny_toks (wpAny_newFunctionEnv_cells (Q := fun env s' => env = callEnvC fd s.heap.objs.size a ∧ InCallC s (callEnvC fd s.heap.objs.size a).locals (bindL (callEnvC fd s.heap.objs.size a).kindOf binds fun _ => none) (callEnvC fd s.heap.objs.size a).cells
        (bindC (callEnvC fd s.heap.objs.size a).kindOf binds fun _ => none) s') hk hkind fun env he s' x => ?_)) ?_ fun _ _ z => z)
  · subst he
    exact ⟨rfl, x⟩
  · rintro env s' ⟨⟨rfl, x⟩, le⟩
    exact ⟨hlim.keeps x.toInCall.keep, codeAny_func (h s' x le)⟩
noncomputable def cellNames (names : List (Str × NameKind)) (acc : List Str) : List Str := names.foldl (fun cs y => if y.2 == .cell then y.1 :: cs else cs) acc
theorem cellsFrom_names : ∀ (names : List (Str × NameKind)) (n : Nat) (acc : List (Str × Addr)), (cellsFrom n names acc).map (·.1) = cellNames names (acc.map (·.1))
  | [], _, _ => rfl
  | (y, k) :: r, n, acc => by
    unfold cellsFrom cellNames
    rw [List.foldl_cons]
    split
    · exact cellsFrom_names r _ _
    · exact cellsFrom_names r _ _
theorem bindL_not {kindOf : Str → Option NameKind} {x : Str} : ∀ (bs : List (Str × Value)) (m : Str → Option Value), x ∉ bs.map (·.1) → bindL kindOf bs m x = m x
  | [], _, _ => rfl
  | (n, v) :: r, m, hx => by
    unfold bindL
    have h1 : x ≠ n := fun q => hx (by simp [q])
    rw [bindL_not r _ fun q => hx (List.mem_cons_of_mem _ q)]
    split
    · exact if_neg h1
    · rfl
theorem bindL_eq {kindOf : Str → Option NameKind} {x : Str} {v : Value} (hk : kindOf x = some .local) : ∀ (bs : List (Str × Value)) (m : Str → Option Value), (bs.map (·.1)).Nodup → bs.lookup x = some v → bindL kindOf bs m x = some v
  | [], _, _, e => by simp at e
  | (n, u) :: r, m, nd, e => by
    rw [List.map_cons, List.nodup_cons] at nd
    rw [List.lookup_cons] at e
    unfold bindL
    by_cases h1 : x = n
    · subst h1
      simp at e; subst e
      rw [bindL_not r _ nd.1, if_pos hk]
      simp
    · have : (x == n) = false := by simpa using h1
      rw [this] at e
      exact bindL_eq hk r _ nd.2 e
theorem bindC_not {kindOf : Str → Option NameKind} {x : Str} : ∀ (bs : List (Str × Value)) (m : Str → Option Value), x ∉ bs.map (·.1) → bindC kindOf bs m x = m x
  | [], _, _ => rfl
  | (n, v) :: r, m, hx => by
    unfold bindC
    have h1 : x ≠ n := fun q => hx (by simp [q])
    rw [bindC_not r _ fun q => hx (List.mem_cons_of_mem _ q)]
    split
    · rfl
    · exact if_neg h1
theorem bindC_eq {kindOf : Str → Option NameKind} {x : Str} {v : Value} (hk : kindOf x ≠ some .local) : ∀ (bs : List (Str × Value)) (m : Str → Option Value), (bs.map (·.1)).Nodup → bs.lookup x = some v → bindC kindOf bs m x = some v
  | [], _, _, e => by simp at e
  | (n, u) :: r, m, nd, e => by
    rw [List.map_cons, List.nodup_cons] at nd
    rw [List.lookup_cons] at e
    unfold bindC
    by_cases h1 : x = n
    · subst h1
      simp at e; subst e
      rw [bindC_not r _ nd.1, if_neg hk]
      simp
    · have : (x == n) = false := by simpa using h1
      rw [this] at e
      exact bindC_eq hk r _ nd.2 e
theorem lookup_mem {cs : List (Str × Addr)} {x : Str} {c : Addr} (e : cs.lookup x = some c) : (x, c) ∈ cs := by
  induction cs with
  | nil => simp at e
  | cons y r ih =>
    rw [List.lookup_cons] at e
    by_cases h : x = y.1
    · subst h; simp at e; subst e; exact .head _
    · have : (x == y.1) = false := by simpa using h
      rw [this] at e; exact .tail _ (ih e)
inductive Args (prog : Program) (w : World) (F : Store) (lD : List (Addr × Obj)) : List Value → List Bind → Prop
  | nil : Args prog w F lD [] []
  | fz {v : Value} {p : PV} {vs : List Value} {bs : List Bind} : Rep prog w F (fun _ _ => False) v p → Args prog w F lD vs bs → Args prog w F lD (v :: vs) (.fz p :: bs)
  | mat {x d C : Addr} {od : Obj} {P : Store → Obj → Prop} {vs : List Value} {bs : List Bind} : F x (instObj C d) → (d, od) ∈ lD → (∃ es n, od = dictOf es n) → (∀ F', (∀ a o, F a o → ¬ NoVal o → F' a o) → P F' od) → (∀ b ∈ bs, d ∉ b.addrs) → Args prog w F lD vs bs → Args prog w F lD (.ref x :: vs) (.mat d C P :: bs)
theorem Sto.cell {X : Fm} {s : Scope} {cn : List Str} (sc : Sc X s cn) (cnew : ∀ x c, X.env.cells.lookup x = some c → X.h₀.get? c = none) {x : Str} (h1 : s.names.lookup x = some .cell) (h2 : cn.contains x = true) : Sto X x := .inr ⟨(sc.kind x).trans h1, by
  have : x ∈ X.env.cells.map (·.1) := by rw [sc.c]; simpa using h2
  obtain ⟨c, hc⟩ := Option.isSome_iff_exists.mp (lookup_some_of_mem this)
  exact ⟨c, hc, cnew x c hc⟩⟩
theorem Sto.loc {X : Fm} {s : Scope} {cn : List Str} (sc : Sc X s cn) {x : Str} (h1 : s.names.lookup x = some .local) : Sto X x := .inl ((sc.kind x).trans h1)
structure Ret (prog : Program) (w : World) (F : Store) (h : Heap) (D : List Addr) (Q : PV → Ctx → Prop) (v : Value) (h' : Heap) : Prop where
  ex : ∃ p Γ' F', (∀ a o, F a o → F' a o) ∧ (∀ a o, F' a o → h'.get? a = some o ∧ a ∉ D ∧ (F a o ∨ h.get? a = none)) ∧ Rep prog w F' (fun _ _ => False) v p ∧ Q p Γ' ∧
    ∀ x d C P, Γ'.lookup x = some (.mat d C P) → ∃ od, h'.get? d = some od ∧ (∃ es n, od = dictOf es n) ∧ ∀ F2, (∀ a o, F' a o → ¬ NoVal o → F2 a o) → P F2 od
  sub : Sub D h h'
theorem fn_core {prog : Program} {w : World} {A : Around} {h : Heap} {K : Frag} {f : Addr} {fd : FuncData} {body : List Stmt} {vs : List Value} {ns : List Str} {bs : List Bind} {F : Store} {lD : List (Addr × Obj)} (rd : Nat) (Q : PV → Ctx → Prop) (fk : FnOkC K f fd body) (hh : A.handled = none) (room : A.depth + 21 + rd < recursionLimit) (units : A.units + 30 + 10 * rd < cLine)
    (G : ∀ h', Sub (lD.map (·.1)) h h' → Gr K h') (std : ∀ a o, F a o → h.get? a = some o ∧ a ∉ lD.map (·.1)) (hl : ∀ p ∈ lD, h.get? p.1 = some p.2) (nd : (lD.map (·.1)).Nodup)
    (hbind : bindArgs fd ⟨vs, []⟩ = pure (ns.zip vs)) (hns : ns.Nodup) (hlen : ns.length = vs.length) (hkind : (ns.all fun x => decide (fd.scope.names.lookup x = some .local) || (decide (fd.scope.names.lookup x = some .cell) && (cellNames fd.scope.names []).contains x)) = true)
    (args : Args prog w F lD vs bs)
    (run : ∀ X : Fm, FmOk X → Sc X fd.scope (cellNames fd.scope.names []) → (∀ x c, X.env.cells.lookup x = some c → X.h₀.get? c = none) → X.prog = prog → X.w = w → X.K = K → X.D = lD.map (·.1) → X.rd = rd → Ex X (ns.zip bs) body fun o => match o with | .ret p Γ => Q p Γ | .next Γ => Q .none Γ | _ => False)
    (s₀ : Shared) (es : s₀.heap = h) (enter : ∀ R : Result → Shared → Prop, (∀ s₁, InCallC s₀ (callEnvC fd s₀.heap.objs.size f).locals (bindL (callEnvC fd s₀.heap.objs.size f).kindOf (ns.zip vs) fun _ => none) (callEnvC fd s₀.heap.objs.size f).cells
        (bindC (callEnvC fd s₀.heap.objs.size f).kindOf (ns.zip vs) fun _ => none) s₁ → 0 < s₁.toks →
      wpAny (model prog w) (A.deeper (callEnvC fd s₀.heap.objs.size f)) (execs body (callEnvC fd s₀.heap.objs.size f)) (fun f s' => R (.ok (.ret (match f with | .ret v => v | _ => .none))) s')
        (fun e s' => wpAny (model prog w) (A.deeper (callEnvC fd s₀.heap.objs.size f)) (leaving (callEnvC fd s₀.heap.objs.size f) e) (fun _ s'' => R (.error e) s'') (fun e' s'' => R (.error e') s'') s') s₁) →
      codeAny (model prog w) A (.call (.ref f) ⟨vs, []⟩) R s₀) :
    codeAny (model prog w) A (.call (.ref f) ⟨vs, []⟩) (fun r s' => ∃ v h' tk, r = .ok (.ret v) ∧ s' = { s₀ with heap := h', toks := tk } ∧ 0 < tk ∧ Ret prog w F h (lD.map (·.1)) Q v h') s₀ := by
  subst es
  obtain ⟨o, ho, hd⟩ := fk.lk
  have G0 := G _ Sub.refl
  have fst : (ns.zip vs).map (·.1) = ns := by rw [List.map_fst_zip]; (first | lia | omega)
  have hk : ∀ x ∈ ns, fd.scope.names.lookup x = some .local ∨ (fd.scope.names.lookup x = some .cell ∧ ∀ n, ((cellsFrom n fd.scope.names []).lookup x).isSome = true) := fun x hx => by
    have := List.all_eq_true.mp hkind x hx
    simp only [Bool.or_eq_true, Bool.and_eq_true, decide_eq_true_eq] at this
    refine this.imp id fun q => ⟨q.1, fun n => lookup_some_of_mem ?_⟩
    rw [cellsFrom_names]
    simpa using q.2
  refine enter _ (fun s₁ XC leT => ?_)
  · generalize hL : s₀.heap.objs.size = L at *
    let env := callEnvC fd L f
    obtain ⟨h₁, tk, rfl⟩ := XC.toInCall.same
    have hCells : env.cells = cellsFrom (L + 1) fd.scope.names [] := rfl
    have cell : ∀ n c, env.cells.lookup n = some c → h₁.IsCell c (bindC env.kindOf (ns.zip vs) (fun _ => none) n) := XC.cell
    have above : ∀ n c, (n, c) ∈ env.cells → L < c := XC.above
    have apart : env.cells.Pairwise fun x y => x.2 ≠ y.2 := XC.apart
    have keep : ∀ b o, s₀.heap.get? b = some o → h₁.get? b = some o := XC.toInCall.keep
    have ns' : h₁.Ns L (bindL env.kindOf (ns.zip vs) fun _ => none) := XC.toInCall.ns
    have nL : s₀.heap.get? L = none := by rw [← hL]; exact get_size_none _
    have nC : ∀ c, L < c → s₀.heap.get? c = none := fun c hc => by
      cases e : s₀.heap.get? c with
      | none => rfl
      | some o => exact absurd (Heap.lt_size e) (by rw [hL]; exact Nat.not_lt.mpr (Nat.le_of_lt hc))
    let oc : Str → Obj := fun n => match env.cells.lookup n with | some c => (h₁.get? c).getD { cls := .none } | none => { cls := .none }
    have hoc : ∀ n c, env.cells.lookup n = some c → h₁.get? c = some (oc n) ∧ IsCel (oc n) (bindC env.kindOf (ns.zip vs) (fun _ => none) n) := fun n c e => by
      obtain ⟨oo, g, d⟩ := cell n c e
      simp only [oc, e, g, Option.getD_some]
      exact ⟨trivial, d⟩
    let lc : List (Addr × Obj) := (env.cells.filter fun p => decide (env.cells.lookup p.1 = some p.2)).map fun p => (p.2, oc p.1)
    have inlc : ∀ n c, env.cells.lookup n = some c → (c, oc n) ∈ lc := fun n c e => List.mem_map.mpr ⟨(n, c), List.mem_filter.mpr ⟨lookup_mem e, decide_eq_true e⟩, rfl⟩
    have oflc : ∀ p ∈ lc, ∃ n, env.cells.lookup n = some p.1 ∧ p.2 = oc n ∧ L < p.1 := fun p hp => by
      obtain ⟨q, hq, rfl⟩ := List.mem_map.mp hp
      obtain ⟨h1, h2⟩ := List.mem_filter.mp hq
      exact ⟨q.1, of_decide_eq_true h2, rfl, above q.1 q.2 h1⟩
    have old : ∀ {b o}, s₀.heap.get? b = some o → b < L := fun {b o} e => hL ▸ Heap.lt_size e
    have H : S s₀.heap (lD.map (·.1)) L (bindL env.kindOf (ns.zip vs) fun _ => none) (lc ++ lD) h₁ := {
      base := fun b o _ e => keep b o e
      ns := ns'
      led := fun p hp => (List.mem_append.mp hp).elim (fun q => by
        obtain ⟨n, e1, e2, _⟩ := oflc p q
        rw [e2]; exact (hoc n p.1 e1).1) fun q => keep _ _ (hl p q)
      own := fun p hp => (List.mem_append.mp hp).elim (fun q => by
        obtain ⟨n, e1, e2, e3⟩ := oflc p q
        exact .inr (nC _ e3)) fun q => .inl (List.mem_map_of_mem q)
      nodup := by
        rw [List.map_append, List.nodup_append]
        refine ⟨?_, nd, fun a ha b hb e => ?_⟩
        · rw [List.map_map]
          exact List.pairwise_map.mpr (apart.sublist List.filter_sublist)
        · obtain ⟨p, hp, rfl⟩ := List.mem_map.mp ha
          obtain ⟨q, hq, rfl⟩ := List.mem_map.mp hb
          obtain ⟨n, _, _, e3⟩ := oflc p hp
          have := old (hl q hq)
          rw [← e] at this
          exact absurd this (Nat.lt_asymm e3)
      offL := fun q => by
        rw [List.map_append, List.mem_append] at q
        rcases q with q | q
        · obtain ⟨p, hp, e⟩ := List.mem_map.mp q
          obtain ⟨n, _, _, e3⟩ := oflc p hp
          rw [e] at e3; exact Nat.lt_irrefl _ e3
        · obtain ⟨p, hp, e⟩ := List.mem_map.mp q
          have := old (hl p hp)
          rw [e] at this; exact Nat.lt_irrefl _ this
      newL := nL
      dl := fun d hd => by rw [List.map_append]; exact List.mem_append_right _ hd }
    let X : Fm := ⟨prog, w, A.deeper env, env, s₀.heap, lD.map (·.1), F, fun _ _ => False, K, rd⟩
    have ok : FmOk X := {
      e := fk.ok L
      hh := hh
      gr := G
      f0 := std
      xr := fun a o q => q.elim
      cinj := fun x y c e1 e2 => by
        have m1 := lookup_mem e1
        have m2 := lookup_mem e2
        have : ∀ {cs : List (Str × Addr)}, cs.Pairwise (fun x y => x.2 ≠ y.2) → (x, c) ∈ cs → (y, c) ∈ cs → x = y := by
          intro cs hp h1 h2
          induction cs with
          | nil => cases h1
          | cons z r ih =>
            rw [List.pairwise_cons] at hp
            rcases List.mem_cons.mp h1 with h1 | h1
            · rcases List.mem_cons.mp h2 with h2 | h2
              · rw [← h1] at h2; cases h2; rfl
              · exact absurd (by rw [← h1]) (hp.1 _ h2)
            · rcases List.mem_cons.mp h2 with h2 | h2
              · exact absurd (by rw [← h2]) (hp.1 _ h1)
              · exact ih hp.2 h1 h2
        exact this apart m1 m2
      room := by show A.depth + 1 + 20 + rd < _; (first | lia | omega)
      units := by show A.units + 3 + 20 + 10 * rd < _; (first | lia | omega) }
    have sc : Sc X fd.scope (cellNames fd.scope.names []) := ⟨rfl, by
      show env.cells.map (·.1) = _
      rw [hCells, cellsFrom_names]; rfl⟩
    have argBind : ∀ {ns : List Str} {vs : List Value} {bs : List Bind}, Args prog w F lD vs bs → ns.length = vs.length → ∀ x b, (ns.zip bs).lookup x = some b → ∃ v, (ns.zip vs).lookup x = some v ∧ BindOk X F (lc ++ lD) v b := by
      intro ns vs bs ar
      induction ar generalizing ns with
      | nil => intro hl x b e; simp at e
      | fz r _ ih =>
        intro hl x b e
        cases ns with
        | nil => simp at hl
        | cons n ns =>
          rw [List.zip_cons_cons, List.lookup_cons] at e ⊢
          by_cases hx : x = n
          · subst hx
            simp at e ⊢
            subst e; exact r
          · have : (x == n) = false := by simpa using hx
            rw [this] at e ⊢
            exact ih (by simpa using hl) x b e
      | mat h1 h2 h3 h4 h5 _ ih =>
        intro hl x b e
        cases ns with
        | nil => simp at hl
        | cons n ns =>
          rw [List.zip_cons_cons, List.lookup_cons] at e ⊢
          by_cases hx : x = n
          · subst hx
            simp at e ⊢
            subst e; exact ⟨_, _, rfl, h1, List.mem_append_right _ h2, h3, h4⟩
          · have : (x == n) = false := by simpa using hx
            rw [this] at e ⊢
            exact ih (by simpa using hl) x b e
    have argInj : ∀ {ns : List Str} {vs : List Value} {bs : List Bind}, Args prog w F lD vs bs → ns.length = vs.length → ∀ x y b c a, (ns.zip bs).lookup x = some b → (ns.zip bs).lookup y = some c → a ∈ b.addrs → a ∈ c.addrs → x = y := by
      intro ns vs bs ar
      have memOf : ∀ {ns : List Str} {bs : List Bind} {x b}, (ns.zip bs).lookup x = some b → b ∈ bs := by
        intro ns bs x b e
        induction ns generalizing bs with
        | nil => simp at e
        | cons n ns ih =>
          cases bs with
          | nil => simp at e
          | cons b' bs =>
            rw [List.zip_cons_cons, List.lookup_cons] at e
            by_cases hx : x = n
            · subst hx; simp at e; subst e; exact .head _
            · have : (x == n) = false := by simpa using hx
              rw [this] at e; exact .tail _ (ih e)
      induction ar generalizing ns with
      | nil => intro hl x y b c a e; simp at e
      | fz r _ ih =>
        intro hl x y b c a e1 e2 a1 a2
        cases ns with
        | nil => simp at hl
        | cons n ns =>
          rw [List.zip_cons_cons, List.lookup_cons] at e1 e2
          by_cases hx : x = n
          · subst hx; simp at e1; subst e1; cases a1
          · by_cases hy : y = n
            · subst hy; simp at e2; subst e2; cases a2
            · have h1 : (x == n) = false := by simpa using hx
              have h2 : (y == n) = false := by simpa using hy
              rw [h1] at e1; rw [h2] at e2
              exact ih (by simpa using hl) x y b c a e1 e2 a1 a2
      | mat h1 h2 h3 h4 h5 _ ih =>
        intro hl x y b c a e1 e2 a1 a2
        cases ns with
        | nil => simp at hl
        | cons n ns =>
          rw [List.zip_cons_cons, List.lookup_cons] at e1 e2
          by_cases hx : x = n
          · by_cases hy : y = n
            · rw [hx, hy]
            · have q2 : (y == n) = false := by simpa using hy
              rw [q2] at e2
              subst hx; simp at e1; subst e1
              rw [List.mem_singleton.mp a1] at a2
              exact absurd a2 (h5 _ (memOf e2))
          · have q1 : (x == n) = false := by simpa using hx
            rw [q1] at e1
            by_cases hy : y = n
            · subst hy; simp at e2; subst e2
              rw [List.mem_singleton.mp a2] at a1
              exact absurd a1 (h5 _ (memOf e1))
            · have q2 : (y == n) = false := by simpa using hy
              rw [q2] at e2
              exact ih (by simpa using hl) x y b c a e1 e2 a1 a2
    have ndz : ((ns.zip vs).map (·.1)).Nodup := by rw [fst]; exact hns
    have HH : Holds X (ns.zip bs) F (bindL env.kindOf (ns.zip vs) fun _ => none) (lc ++ lD) h₁ := {
      s := H
      fz := fun a o e => by
        obtain ⟨e1, e2⟩ := std a o e
        refine ⟨keep _ _ e1, fun z => ?_, fun z => ?_⟩
        · have := old e1
          have z : a = L := z
          rw [z] at this; exact Nat.lt_irrefl _ this
        · rw [List.map_append, List.mem_append] at z
          refine z.elim (fun z => ?_) e2
          obtain ⟨p, hp, q⟩ := List.mem_map.mp z
          obtain ⟨n, _, _, e3⟩ := oflc p hp
          have := old e1
          rw [← q] at this
          exact absurd this (Nat.lt_asymm e3)
      fn := fun a o e => .inl e
      f0 := fun a o e => e
      nm := fun x b e => by
        obtain ⟨v, e1, bo⟩ := argBind args hlen x b e
        refine ⟨v, ?_, bo⟩
        have hx : x ∈ ns := by
          have : ∀ {ns : List Str} {vs : List Value}, (ns.zip vs).lookup x = some v → x ∈ ns := by
            intro ns vs e
            induction ns generalizing vs with
            | nil => simp at e
            | cons n ns ih =>
              cases vs with
              | nil => simp at e
              | cons u vs =>
                rw [List.zip_cons_cons, List.lookup_cons] at e
                by_cases hx : x = n
                · subst hx; exact .head _
                · have h1 : (x == n) = false := by simpa using hx
                  rw [h1] at e; exact .tail _ (ih e)
          exact this e1
        rcases hk x hx with q | ⟨q, q2⟩
        · have kx : env.kindOf x = some .local := q
          exact .inl ⟨kx, bindL_eq kx _ _ ndz e1⟩
        · have kx : env.kindOf x = some .cell := q
          obtain ⟨c, hc⟩ := Option.isSome_iff_exists.mp (q2 (L + 1))
          have hc : env.cells.lookup x = some c := hc
          refine .inr ⟨c, oc x, kx, hc, .inl (List.mem_append_left _ (inlc x c hc)), ?_⟩
          have := (hoc x c hc).2
          rwa [bindC_eq (by rw [kx]; exact fun z => nomatch z) _ _ ndz e1] at this
      inj := argInj args hlen
      cel := fun x c e _ => ⟨oc x, _, List.mem_append_left _ (inlc x c e), (hoc x c e).2⟩ }
    have cnew : ∀ x c, X.env.cells.lookup x = some c → X.h₀.get? c = none := fun x c e => nC c (above x c (lookup_mem e))
    have go := run X ok sc cnew rfl rfl rfl rfl rfl F _ _ h₁ HH
    refine wpAny_mono (go _ rfl (leT)) ?_ fun _ _ z => z.elim
    rintro fl s' ⟨h', tk', rfl, hpk, q⟩
    have toRet : ∀ {v p Γ' F' m' l'}, (∀ a o, F a o → F' a o) → Holds X Γ' F' m' l' h' → Rep prog w F' (fun _ _ => False) v p → Q p Γ' → Ret prog w F s₀.heap (lD.map (·.1)) Q v h' := fun {v p Γ' F' m' l'} le HE r q =>
      ⟨⟨p, Γ', F', le, fun a o e => ⟨(HE.fz a o e).1, fun z => (HE.fz a o e).2.2 (HE.s.dl a z), HE.fn a o e⟩, r, q, fun x d C P e => by
        obtain ⟨v, lk, y, od, rfl, h1, h2, h3, h4⟩ := HE.nm x _ e
        exact ⟨od, HE.s.led _ h2, h3, h4⟩⟩, HE.s.base⟩
    cases fl with
    | next =>
      obtain ⟨Γ', F', m', l', le, HE, q⟩ := q
      exact ⟨_, _, _, rfl, rfl, hpk, toRet le HE .none q⟩
    | brk => obtain ⟨Γ', F', m', l', le, HE, q⟩ := q; exact q.elim
    | cont => obtain ⟨Γ', F', m', l', le, HE, q⟩ := q; exact q.elim
    | ret v =>
      obtain ⟨p, Γ', F', m', l', le, HE, r, q⟩ := q
      exact ⟨_, _, _, rfl, rfl, hpk, toRet le HE r q⟩
theorem fn_run {prog : Program} {w : World} {A : Around} {h : Heap} {K : Frag} {f : Addr} {fd : FuncData} {body : List Stmt} {vs : List Value} {ns : List Str} {bs : List Bind} {F : Store} {lD : List (Addr × Obj)} (rd : Nat) (Q : PV → Ctx → Prop) (fk : FnOkC K f fd body) (hh : A.handled = none) (room : A.depth + 21 + rd < recursionLimit) (units : A.units + 30 + 10 * rd < cLine)
    (G : ∀ h', Sub (lD.map (·.1)) h h' → Gr K h') (std : ∀ a o, F a o → h.get? a = some o ∧ a ∉ lD.map (·.1)) (hl : ∀ p ∈ lD, h.get? p.1 = some p.2) (nd : (lD.map (·.1)).Nodup)
    (hbind : bindArgs fd ⟨vs, []⟩ = pure (ns.zip vs)) (hns : ns.Nodup) (hlen : ns.length = vs.length) (hkind : (ns.all fun x => decide (fd.scope.names.lookup x = some .local) || (decide (fd.scope.names.lookup x = some .cell) && (cellNames fd.scope.names []).contains x)) = true)
    (args : Args prog w F lD vs bs)
    (run : ∀ X : Fm, FmOk X → Sc X fd.scope (cellNames fd.scope.names []) → (∀ x c, X.env.cells.lookup x = some c → X.h₀.get? c = none) → X.prog = prog → X.w = w → X.K = K → X.D = lD.map (·.1) → X.rd = rd → Ex X (ns.zip bs) body fun o => match o with | .ret p Γ => Q p Γ | .next Γ => Q .none Γ | _ => False) :
    TCP prog w A (.call (.ref f) ⟨vs, []⟩) h (Ret prog w F h (lD.map (·.1)) Q) := fun s₀ es hp₀ => by
  obtain ⟨o, ho, hd⟩ := fk.lk
  have G0 := G _ Sub.refl
  have fst : (ns.zip vs).map (·.1) = ns := by rw [List.map_fst_zip]; (first | lia | omega)
  refine fn_core rd Q fk hh room units G std hl nd hbind hns hlen hkind args run s₀ es fun R k => ?_
  subst es
  refine call_cellsP (by (first | lia | omega)) (G0.k _ _ ho) hd G0.nolimit (codeRec_of G0.k fk.cd) fk.body hbind fk.clo (fun x hx => ?_) (fun s₁ XC leT => k s₁ XC (Nat.lt_of_lt_of_le hp₀ leT)) fk.co fk.gen fk.kind
  have := List.all_eq_true.mp hkind x.1 (by rw [← fst]; exact List.mem_map_of_mem hx)
  simp only [Bool.or_eq_true, Bool.and_eq_true, decide_eq_true_eq] at this
  refine this.imp id fun q => ⟨q.1, lookup_some_of_mem ?_⟩
  rw [cellsFrom_names]
  simpa using q.2
end Mine

end
section
open PySem PySem.W PyProof.Rows PySem.Calls
set_option Elab.async false
set_option linter.unusedVariables false
set_option maxRecDepth 100000
set_option maxHeartbeats 4000000
namespace Mine
section
variable {prog : Program} {w : World} {A : Around} {h h' h₀ : Heap} {env : Env} {D : List Addr} {m : Str → Option Value} {l l₀ : List (Addr × Obj)} {K : Frag}
theorem TCP.defC {f : Addr} {fd : FuncData} {body : List Stmt} {args : List Value} {binds : List (Str × Value)} {Q : Value → Heap → Prop} (lD : List (Addr × Obj)) (F : FnOkC K f fd body) (G : Gr K h) (hroom : A.depth < recursionLimit)
    (hbind : bindArgs fd ⟨args, []⟩ = Pure.pure binds) (hloc : (binds.map (·.1)).all (fun x => decide (fd.scope.names.lookup x = some .local)) = true) (hl : ∀ p ∈ lD, h.get? p.1 = some p.2) (nd : (lD.map (·.1)).Nodup)
    (k : ∀ h₁ L, S h (lD.map (·.1)) L (bindL (callEnvC fd L f).kindOf binds fun _ => none) lD h₁ → TP prog w (A.deeper (callEnvC fd L f)) (execs body (callEnvC fd L f)) h₁ fun fl h' => Q (match fl with | .ret v => v | _ => .none) h') : TCP prog w A (.call (.ref f) ⟨args, []⟩) h Q := fun s es hp => by
  subst es
  obtain ⟨o, ho, hd⟩ := F.lk
  refine call_cellsP hroom (G.k _ _ ho) hd G.nolimit (codeRec_of G.k F.cd) F.body hbind F.clo (fun x hx => ?_) (fun s₁ XC le => ?_) F.co F.gen F.kind
  · exact .inl (of_decide_eq_true (List.all_eq_true.mp hloc x.1 (List.mem_map_of_mem hx)))
  · obtain ⟨h₁, tk, rfl⟩ := XC.toInCall.same
    have H : S s.heap (lD.map (·.1)) s.heap.objs.size (bindL (callEnvC fd s.heap.objs.size f).kindOf binds fun _ => none) lD h₁ := {
      base := fun b o _ e => XC.toInCall.keep b o e
      ns := XC.toInCall.ns
      led := fun p hp => XC.toInCall.keep _ _ (hl p hp)
      own := fun p hp => .inl (List.mem_map_of_mem hp)
      nodup := nd
      offL := fun q => by
        obtain ⟨p, hp, e⟩ := List.mem_map.mp q
        have := hl p hp
        rw [e, get_size_none] at this; cases this
      newL := get_size_none _
      dl := fun d hd => hd }
    refine wpAny_mono (k h₁ _ H _ rfl (Nat.lt_of_lt_of_le hp le)) ?_ fun _ _ z => z.elim
    rintro fl s' ⟨h', tk', rfl, hpk, q⟩
    exact ⟨_, _, _, rfl, rfl, hpk, q⟩
theorem fn_calcC (P : Params) : FnOkC (frag P) at_calculate_ratio fdOf_calculate_ratio (bodyN (stN pwBody 4)) :=
  ⟨⟨obOf_calculate_ratio P, by kernel_rfl!, rfl⟩, by kernel_rfl!, by kernel_rfl!, by kernel_rfl!, by kernel_rfl!, by kernel_rfl!, by kernel_rfl!, by kernel_rfl!, by kernel_rfl!⟩
theorem calc_ratioP {mm n : Nat} {t u : Tok} {Q : Value → Heap → Prop} (G : Gr (frag w.params) h) (hroom : A.depth < recursionLimit) (hm : mm ≤ 1000000) (hn : n ≤ 1000000)
    (q : ∀ h' t, t ≠ 0 → Sub [] h h' → Q (.float (ratioF mm n) t) h') : TCP prog w A (.call (.ref at_calculate_ratio) ⟨[.int (mm : Nat) t, .int (n : Nat) u], []⟩) h Q := by
  refine TCP.defC (binds := [((Str.ofString "matches"), .int (mm : Nat) t), ((Str.ofString "length"), .int (n : Nat) u)]) [] (fn_calcC w.params) G hroom (by kernel_rfl!) (by kernel_rfl!) (by first | walk_at "mem" | simp) (by first | walk_at "mem" | simp) fun h₁ L H => ?_
  have e := (fn_calcC w.params).ok L
  have k1 : (callEnvC fdOf_calculate_ratio L at_calculate_ratio).kindOf (Str.ofString "matches") = some .local := by kernel_rfl!
  have k2 : (callEnvC fdOf_calculate_ratio L at_calculate_ratio).kindOf (Str.ofString "length") = some .local := by kernel_rfl!
  replace H : S h [] L (upd (upd (fun _ => none) (Str.ofString "matches") (.int (mm : Nat) t)) (Str.ofString "length") (.int (n : Nat) u)) [] h₁ := by
    simp only [bindL, k1, k2, if_true] at H
    exact H
  generalize henv : callEnvC fdOf_calculate_ratio L at_calculate_ratio = env at *
  have hL : L = env.locals := by rw [← henv]; rfl
  subst hL
  clear henv
  generalize A.deeper env = A' at *
  have nm1 : ∀ {pos : Pos} {Q : Value → Heap → Prop}, Q (.int (mm : Nat) t) h₁ → T prog w A' (eval (.Name (Str.ofString "matches") pos) env) h₁ Q := fun q => T.Name e H (by walk_at "look") q k1 (by decide +kernel)
  have nm2 : ∀ {pos : Pos} {Q : Value → Heap → Prop}, Q (.int (n : Nat) u) h₁ → T prog w A' (eval (.Name (Str.ofString "length") pos) env) h₁ Q := fun q => T.Name e H (by walk_at "look") q k2 (by decide +kernel)
  refine TP.execs_cons (TP.If (TP.of (t_isTrue_plain (nm2 (t_truthy_int ?_)))))
  by_cases c : n = 0
  · rw [if_neg (by simpa using c)]
    refine TP.execs_nil ?_
    refine TP.execs_cons (TP.Return fun s es hp => ?_)
    subst es
    refine wpAny_Constant_float ⟨s.heap, s.toks + 1, rfl, Nat.succ_pos _, ?_⟩
    have := q s.heap s.toks (Nat.pos_iff_ne_zero.mp hp) H.base
    rwa [ratioF, if_pos c] at this
  · rw [if_pos (by simpa using c)]
    refine TP.execs_cons (TP.Return (TP.BinOp (TP.of (T.BinOp (T.cFloat fun t1 => nm1 (T.mulFI (small_pow hm) fun t2 => TP.of (nm2 ?_)))))))
    intro s es hp
    subst es
    refine AutoFloatOps.truediv_fi_2 (Float64.ofInt_fits (small_pow hn)) (fun z => (by (first | lia | omega) : (n : Int) ≠ 0) ((PySem.Flt.isZero_ofInt n).mp z)) ⟨_, _, rfl, Nat.succ_pos _, ?_⟩
    have := q s.heap s.toks (Nat.pos_iff_ne_zero.mp hp) H.base
    rwa [ratioF, if_neg c] at this
theorem qr_tail {d dx x ax bx : Addr} {ob od : Obj} {vs us : List Value} {ns ms : List Int} {kvb : List (Int × Value)} {am : Str → Option Value} {Q : Flow → Heap → Prop} (e : EnvOk env) (hh : A.handled = none) (hsc : env.scope = fdOf_SequenceMatcher_quick_ratio.scope) (hL : Loc env qrN) (hroom : A.depth < recursionLimit)
    (kg : ∀ y ∈ [(Str.ofString "_calculate_ratio"), (Str.ofString "len")], env.kindOf y = some .globalImplicit) (G : ∀ {m l h₂}, S h₀ D env.locals m l h₂ → Gr (frag w.params) h₂)
    (Hx : ∀ {m l h₂}, S h₀ D env.locals m l h₂ → h₂.get? x = some (instObj aSM dx)) (hal : ∀ {m l h₂}, S h₀ D env.locals m l h₂ → h₂.IsList ax vs.toArray) (hbl : ∀ {m l h₂}, S h₀ D env.locals m l h₂ → h₂.IsList bx us.toArray) (hi : IntsAre vs ns) (hj : IntsAre us ms) (hz : ns.length < 100000) (hz2 : ms.length < 100000)
    (ia : IsAttrs attrN od am) (ha : am (Str.ofString "a") = some (.ref ax)) (hb : am (Str.ofString "b") = some (.ref bx)) (hf : am (Str.ofString "fullbcount") = some (.ref d)) (hD : ∀ q ∈ D, q ∈ l₀.map (·.1)) (hdx : (dx, od) ∈ l₀)
    (hdo : ∀ {m l h₂}, S h₀ D env.locals m (l ++ l₀) h₂ → h₂.get? d = some ob) (hdd : IsDic prog w ob kvb) (cb : Cnt kvb ms) (lo : (d == sysModules) = false) (n1 : m (Str.ofString "self") = some (.ref x))
    (H : S h₀ D env.locals m l₀ h)
    (q : ∀ h' t m' l', t ≠ 0 → S h₀ D env.locals m' (l' ++ l₀) h' → ∀ h'', Sub [] h' h'' → Q (.ret (.float (ratioF (qm ms [] ns) (ns.length + ms.length)) t)) h'') : TP prog w A (execs (qrB.drop 2) env) h Q := by
  refine TP.execs_cons (TP.of (T.Assign_Name (T.Attribute ?_)))
  walk_at "nm"
  refine T.getAttr (plainSM w.params) (G H).k ⟨Hx H, H.get hdx⟩ ia hf (attrFind _ (by delta attrN; walk_at "mem")) rfl ?_
  refine T.storeName e H (fun h₁ H₁ => ?_) (hL.of (by first | walk_at "mem" | simp))
  refine TP.execs_cons (TP.of (T.Assign_Name (t_Dict0 fun da h₂ o₂ s₂ f₂ g₂ d₂ => ?_)))
  have H₂ := H₁.add s₂ f₂ g₂
  have loa : (da == sysModules) = false := by
    have := (G H₁).k sysModules (PySem.W.boot_o_1 w.params) (by kernel_rfl!)
    refine beq_eq_false_iff_ne.mpr fun q => ?_
    rw [q, this] at f₂; cases f₂
  refine T.storeName e H₂ (fun h₃ H₃ => ?_) (hL.of (by first | walk_at "mem" | simp))
  refine TP.execs_cons (TP.of ?_)
  refine t_AssignSwap (h₀ := h₀) (D := D) (names := [(Str.ofString "availhas"), (Str.ofString "matches")]) e hh ?_ (hL.subs (by decide +kernel)) (sw_of hsc (by kernel_rfl!)) rfl
  refine T.Attribute ?_
  walk_at "nm"
  refine t_boundHasD (H₃.get (by first | walk_at "mem" | simp)) d₂.cls.1 d₂.cls.2 (isCls_dic d₂) fun u h₄ s₄ f₄ g₄ => ?_
  refine T.cInt fun t1 => ?_
  have H₄ := H₃.add s₄ f₄ g₄
  refine ⟨by show 2 ≤ sizeLine; decide, rfl, _, _, H₄, fun h₅ H₅ => ?_⟩
  simp only [updAll, List.reverse_cons, List.reverse_nil, List.nil_append, List.cons_append] at H₅
  have H₆ := H₅.perm (List.Perm.swap _ _ _)
  refine TP.execs_cons (TP.of ?_)
  refine qr_loop e hh hL G Hx hal hi hz ia ha hD hdx hdo hdd cb lo loa d₂ (by walk_at "look") (by walk_at "look") (by walk_at "look") (by walk_at "look") (by walk_at "look") H₆ fun h₇ m₇ l₇ t7 a1 a2 H₇ => ?_
  refine TP.execs_cons (TP.Return (TP.Call_Name (TP.of ?_)))
  refine T.global (v := .ref at_calculate_ratio) e (G H₇) (by kernel_rfl!) ?_ (kg _ (by first | walk_at "mem" | simp)) (by decide +kernel)
  refine TP.callWith ?_ rfl
  refine TP.of ?_
  walk_at "nm"
  refine TP.of (T.BinOp (T.Call_Name ?_))
  refine T.builtin (v := .builtin "len") e (G H₇) (by kernel_rfl!) (by kernel_rfl!) ?_ (kg _ (by first | walk_at "mem" | simp)) (by decide +kernel) (by decide +kernel)
  refine T.callWith (T.Attribute ?_) rfl
  walk_at "nm"
  refine T.getAttr (plainSM w.params) (G H₇).k ⟨Hx H₇, H₇.get (by simp [hdx])⟩ ia ha (attrFind _ (by delta attrN; walk_at "mem")) rfl ?_
  have l1 := hi.length
  have l2 := hj.length
  refine ⟨Keeps.builtin, t_len (hal H₇) (by (first | lia | omega)) fun t8 => T.Call_Name ?_⟩
  refine T.builtin (v := .builtin "len") e (G H₇) (by kernel_rfl!) (by kernel_rfl!) ?_ (kg _ (by first | walk_at "mem" | simp)) (by decide +kernel) (by decide +kernel)
  refine T.callWith (T.Attribute ?_) rfl
  walk_at "nm"
  refine T.getAttr (plainSM w.params) (G H₇).k ⟨Hx H₇, H₇.get (by simp [hdx])⟩ ia hb (attrFind _ (by delta attrN; walk_at "mem")) rfl ?_
  refine ⟨Keeps.builtin, t_len (hbl H₇) (by (first | lia | omega)) fun t9 => T.add fun t10 => ⟨Keeps.frag (G H₇).k (by kernel_rfl!), TP.call ?_⟩⟩
  rw [l1, l2, show ((ns.length : Int) + (ms.length : Int)) = ((ns.length + ms.length : Nat) : Int) by (first | lia | omega)]
  have := qm_le ms ns []
  exact calc_ratioP (G H₇) hroom (by (first | lia | omega)) (by (first | lia | omega)) fun h₈ t11 n11 s₈ => q h₇ t11 m₇ l₇ n11 H₇ h₈ s₈
end
end Mine

end
section
open PySem PySem.W PyProof.Rows PySem.Calls
set_option Elab.async false
set_option linter.unusedVariables false
set_option maxRecDepth 100000
set_option maxHeartbeats 4000000
namespace Mine
section
variable {prog : Program} {w : World} {A : Around} {h h' h₀ : Heap} {env : Env} {D : List Addr} {m : Str → Option Value} {l l₀ : List (Addr × Obj)} {K : Frag}
theorem t_is_none {Q : Value → Heap → Prop} (q : Q (.bool true) h) : T prog w A (compareOp .Is .none .none) h Q := fun s es => by
  subst es
  exact wpAny_is_self rfl ⟨s.heap, s.toks, rfl, q⟩
theorem fn_quickC (P : Params) : FnOkC (frag P) at_SequenceMatcher_quick_ratio fdOf_SequenceMatcher_quick_ratio qrB :=
  ⟨⟨obOf_SequenceMatcher_quick_ratio P, by kernel_rfl!, rfl⟩, by kernel_rfl!, by kernel_rfl!, by kernel_rfl!, by kernel_rfl!, by kernel_rfl!, by kernel_rfl!, by kernel_rfl!, by kernel_rfl!⟩
theorem quick_ratio {x dx ax bx : Addr} {od : Obj} {vs us : List Value} {ns ms : List Int} {am : Str → Option Value} {Q : Value → Heap → Prop} (Gs : ∀ h₂, Sub [dx] h h₂ → Gr (frag w.params) h₂) (hh : A.handled = none) (hroom : A.depth + 1 < recursionLimit)
    (ho : h.get? x = some (instObj aSM dx)) (hdx : h.get? dx = some od) (ia : IsAttrs attrN od am) (ha : am (Str.ofString "a") = some (.ref ax)) (hb : am (Str.ofString "b") = some (.ref bx)) (hla : h.IsList ax vs.toArray) (hlb : h.IsList bx us.toArray) (hi : IntsAre vs ns) (hj : IntsAre us ms) (hz : ns.length < 100000) (hz2 : ms.length < 100000)
    (full : am (Str.ofString "fullbcount") = some .none ∨ ∃ d ob kvb, am (Str.ofString "fullbcount") = some (.ref d) ∧ h.get? d = some ob ∧ IsDic prog w ob kvb ∧ Cnt kvb ms ∧ (d == sysModules) = false)
    (q : ∀ h' od' am' t, t ≠ 0 → Sub [dx] h h' → h'.get? dx = some od' → IsAttrs attrN od' am' → (am' = am ∨ ∃ d ob kvb, am' = upd am (Str.ofString "fullbcount") (.ref d) ∧ h.get? d = none ∧ h'.get? d = some ob ∧ IsDic prog w ob kvb ∧ Cnt kvb ms ∧ (d == sysModules) = false) → Q (.float (ratioF (qm ms [] ns) (ns.length + ms.length)) t) h') :
    TCP prog w A (.call (.ref at_SequenceMatcher_quick_ratio) ⟨[.ref x], []⟩) h Q := by
  refine TCP.defC (binds := [((Str.ofString "self"), .ref x)]) [(dx, od)] (fn_quickC w.params) (Gs _ Sub.refl) (by (first | lia | omega)) (by kernel_rfl!) (by kernel_rfl!) (by simpa using hdx) (by first | walk_at "mem" | simp) fun h₁ L H => ?_
  have e := (fn_quickC w.params).ok L
  have hL : Loc (callEnvC fdOf_SequenceMatcher_quick_ratio L at_SequenceMatcher_quick_ratio) qrN := Loc.mk' (by kernel_rfl!)
  have kg : ∀ y ∈ [(Str.ofString "_calculate_ratio"), (Str.ofString "len")], (callEnvC fdOf_SequenceMatcher_quick_ratio L at_SequenceMatcher_quick_ratio).kindOf y = some .globalImplicit := by
    have : ([(Str.ofString "_calculate_ratio"), (Str.ofString "len")].all fun y => decide ((callEnvC fdOf_SequenceMatcher_quick_ratio L at_SequenceMatcher_quick_ratio).kindOf y = some .globalImplicit)) = true := by kernel_rfl!
    exact fun y hy => of_decide_eq_true (List.all_eq_true.mp this y hy)
  have hsc : (callEnvC fdOf_SequenceMatcher_quick_ratio L at_SequenceMatcher_quick_ratio).scope = fdOf_SequenceMatcher_quick_ratio.scope := rfl
  have k1 := hL.of (y := (Str.ofString "self")) (by first | walk_at "mem" | simp)
  replace H : S h [dx] L (upd (fun _ => none) (Str.ofString "self") (.ref x)) [(dx, od)] h₁ := by
    simp only [bindL, k1, if_true] at H
    exact H
  generalize henv : callEnvC fdOf_SequenceMatcher_quick_ratio L at_SequenceMatcher_quick_ratio = env at *
  have hLL : L = env.locals := by rw [← henv]; rfl
  subst hLL
  clear henv
  have hh' : (A.deeper env).handled = none := hh
  have hd' : (A.deeper env).depth < recursionLimit := by show A.depth + 1 < _; (first | lia | omega)
  generalize A.deeper env = A' at *
  have hxd := inst_ne ho hdx ia
  have had := list_ne hla hdx ia
  have hbd := list_ne hlb hdx ia
  have GG : ∀ {m l h₂}, S h [dx] env.locals m l h₂ → Gr (frag w.params) h₂ := fun H => Gs _ H.base
  have Hx : ∀ {m l h₂}, S h [dx] env.locals m l h₂ → h₂.get? x = some (instObj aSM dx) := fun H => H.old ho (by simpa using hxd)
  have Ha : ∀ {m l h₂}, S h [dx] env.locals m l h₂ → h₂.IsList ax vs.toArray := fun H => hla.at fun o eo => H.old eo (by simpa using had)
  have Hb : ∀ {m l h₂}, S h [dx] env.locals m l h₂ → h₂.IsList bx us.toArray := fun H => hlb.at fun o eo => H.old eo (by simpa using hbd)
  have P := plainSM w.params
  refine TP.execs_cons (TP.Expr (TP.of (T.cStr fun t => ⟨(fun b q => by cases q), ?_⟩)) e.inter)
  refine TP.execs_cons (TP.If (TP.of (T.isTrue_Compare ?_)))
  rcases full with hn | ⟨d, ob, kvb, hf, gd, dd, cb, lo⟩
  · refine T.Attribute ?_
    walk_at "nm"
    refine T.getAttr P (GG H).k ⟨Hx H, H.get (by first | walk_at "mem" | simp)⟩ ia hn (attrFind _ (by delta attrN; walk_at "mem")) rfl ?_
    refine T.cNone ?_
    refine t_is_none (T.truthy_bool ?_)
    rw [if_pos rfl]
    refine TP.execs_cons (TP.of (t_Assign2 (t_Dict0 fun d h₂ o₂ s₂ f₂ g₂ d₂ => t_assignAttr ?_)))
    have H₂ := H.add s₂ f₂ g₂
    have lo : (d == sysModules) = false := by
      have := (GG H).k sysModules (PySem.W.boot_o_1 w.params) (by kernel_rfl!)
      refine beq_eq_false_iff_ne.mpr fun q => ?_
      rw [q, this] at f₂; cases f₂
    walk_at "nm"
    refine T.setAttr P (GG H₂).k H₂ 1 rfl (Hx H₂) ia (attrTake _ (by delta attrN; walk_at "mem")) (fun h₃ od₃ H₃ _ ia₃ _ => ?_) (by delta attrN; walk_at "mem") (by decide)
    refine t_assignName e H₃ (fun h₄ H₄ => ?_) (hL.of (by first | walk_at "mem" | simp))
    replace H₄ : S h [dx] env.locals (upd (upd (fun _ => none) (Str.ofString "self") (.ref x)) (Str.ofString "fullbcount") (.ref d)) [(d, o₂), (dx, od₃)] h₄ := H₄
    refine TP.execs_cons (TP.of ?_)
    refine qr_full e hh' hL GG Hx Hb hj hz2 ia₃ (by walk_at "look") (fun q hq => by simpa using hq) lo d₂ (by walk_at "look") (by walk_at "look") H₄ fun h₅ m₅ o₅ kvs d₅ c₅ a1 a2 H₅ => TP.execs_nil ?_
    refine qr_tail (l₀ := [(d, o₅), (dx, od₃)]) e hh' hsc hL hd' kg GG Hx Ha Hb hi hj hz hz2 ia₃ (by walk_at "look") (by walk_at "look") upd_here (by first | walk_at "mem" | simp) (by first | walk_at "mem" | simp) (fun {m l h₂} HH => HH.get (by first | walk_at "mem" | simp)) d₅ c₅ lo a1 H₅ fun h₆ t m₆ l₆ nt H₆ h₇ s₇ => ?_
    have nd : d ≠ dx := fun z => by
      have := H₅.nodup
      simp [z] at this
    have nw : h.get? d = none := (H₅.own (d, o₅) (by first | walk_at "mem" | simp)).resolve_left (by simpa using nd)
    exact q h₇ od₃ _ t nt (H₆.base.trans (s₇.nil)) (s₇ _ _ (by first | walk_at "mem" | simp) (H₆.get (by first | walk_at "mem" | simp))) ia₃ (.inr ⟨d, o₅, kvs, rfl, nw, s₇ _ _ (by first | walk_at "mem" | simp) (H₆.get (by first | walk_at "mem" | simp)), d₅, c₅, lo⟩)
  · refine T.Attribute ?_
    walk_at "nm"
    refine T.getAttr P (GG H).k ⟨Hx H, H.get (by first | walk_at "mem" | simp)⟩ ia hf (attrFind _ (by delta attrN; walk_at "mem")) rfl ?_
    refine T.cNone ?_
    refine t_is_no (.inl ⟨rfl, by simp⟩) (T.truthy_bool ?_)
    rw [if_neg (by first | walk_at "mem" | simp)]
    refine TP.execs_nil ?_
    have nd : d ≠ dx := fun z => by
      rw [z, hdx] at gd
      obtain rfl := Option.some.inj gd
      obtain ⟨es, n, rfl, c1, c2, c3⟩ := ia
      obtain ⟨es', n', _, e1, hk, _⟩ := dd
      cases e1
      have hne : es ≠ [] := fun z => by
        have := c1 (Str.ofString "fullbcount")
        rw [z, hf] at this; simp at this
      obtain ⟨y, ys, rfl⟩ := List.exists_cons_of_ne_nil hne
      obtain ⟨s, _, t, e2⟩ := c2 y (.head _)
      obtain ⟨k, hk'⟩ := hk y (by first | walk_at "mem" | simp)
      rw [e2] at hk'
      simp [intKind, Value.isInt] at hk'
    refine qr_tail (l₀ := [(dx, od)]) e hh' hsc hL hd' kg GG Hx Ha Hb hi hj hz hz2 ia ha hb hf (by first | walk_at "mem" | simp) (by first | walk_at "mem" | simp) (fun {m l h₂} HH => HH.old gd (by simpa using nd)) dd cb lo (by walk_at "look") H fun h₆ t m₆ l₆ nt H₆ h₇ s₇ => ?_
    exact q h₇ od am t nt (H₆.base.trans (s₇.nil)) (s₇ _ _ (by first | walk_at "mem" | simp) (H₆.get (by first | walk_at "mem" | simp))) ia (.inl rfl)
end
end Mine

end
section
open PySem PySem.W PyProof.Rows PySem.Calls
set_option Elab.async false
set_option linter.unusedVariables false
set_option maxRecDepth 100000
set_option maxHeartbeats 4000000
namespace Mine
section
variable {prog : Program} {w : World} {A : Around} {h h' h₀ : Heap} {env : Env} {D : List Addr} {L : Addr} {m m' : Str → Option Value} {l l' : List (Addr × Obj)} {K : Frag}
theorem tf_enum0 {x y : Str} {pi pv pt : Pos} {k1 : Nat} {t : Tok} {body : List Stmt} {Q : Flow → Heap → Prop} (hh : A.handled = none) (H : S h₀ D env.locals m l h) (q : ∀ h', S h₀ D env.locals m l h' → Q .next h') :
    T prog w A (PySem.call (.type "enumerate") [.str (Str.ofString "") t]) h fun ev h₁ => T prog w A (pyIter ev) h₁ fun it h₂ => TF prog w A (.forLoop (.Tuple [.Name x pi, .Name y pv] k1 pt) it body [] env) h₂ Q := fun s es => by
  subst es
  refine call_enumerate_str fun h₁ he hit hsz hk => ⟨h₁, s.toks, rfl, fun s₁ es₁ => ?_⟩
  subst es₁
  have ne : s.heap.objs.size + 1 ≠ s.heap.objs.size := Nat.succ_ne_self _
  have ht : strIterType (Str.ofString "") = "str_ascii_iterator" := by decide +kernel
  rw [ht] at hit
  have W := WalksT.enumerateD (prog := prog) (w := w) (A := A) (Draws.strAscii (prog := prog) (w := w) (A := A.in1) hh s.heap.objs.size (Str.ofString "") t) (s.heap.objs.size + 1) ne (by simpa using ne) (by first | walk_at "mem" | simp)
  have hz : (Str.ofString "").cps.size = 0 := by decide +kernel
  rw [hz] at W
  refine W.self 0 s₁ _ _ ⟨⟨_, he⟩, hit⟩ ⟨_, s₁.toks, rfl, ?_⟩
  have n0 : s.heap.get? s.heap.objs.size = none := get_size_none _
  have n1 : s.heap.get? (s.heap.objs.size + 1) = none := by
    cases q : s.heap.get? (s.heap.objs.size + 1) with
    | none => rfl
    | some o => exact absurd (Heap.lt_size q) (Nat.not_lt.mpr (Nat.le_succ _))
  have f0 := H.fresh n0
  have f1 := H.fresh n1
  have H₁ := H.sub (Sub.of_keep hk)
  have H₁ := H.sub (h' := s₁.heap) (Sub.of_keep hk)
  refine TF.forLoop (fun n h => n = 0 ∧ S h₀ D env.locals m l h ∧ (∃ old, IsEnum h (s.heap.objs.size + 1) s.heap.objs.size ((0 : Nat) : Int) old) ∧ h.IsStrIter s.heap.objs.size "str_ascii_iterator" (Str.ofString "") t 0) ?_ 0 ⟨rfl, H₁, ⟨_, he⟩, hit⟩
  rintro n h ⟨rfl, HS, hE, hI⟩
  intro s' es'
  subst es'
  refine W.done s' _ _ ⟨hE, hI⟩ fun h' tk hk' => ⟨h', tk, rfl, q h' (HS.keepBut (X := [s.heap.objs.size + 1, s.heap.objs.size]) (fun b o nb eb => hk' b o nb eb) fun b hb => ?_)⟩
  rcases List.mem_cons.mp hb with rfl | hb
  · exact ⟨fun q => f1.2.2 (H.dl _ q), f1⟩
  · obtain rfl := List.mem_singleton.mp hb
    exact ⟨fun q => f0.2.2 (H.dl _ q), f0⟩
theorem t_len0 {t : Tok} {Q : Value → Heap → Prop} (q : ∀ t, Q (.int 0 t) h) : T prog w A (PySem.call (.builtin "len") [.str (Str.ofString "") t]) h Q := fun s es => by
  subst es
  exact PySem.P.len_str (x := Str.ofString "") (by decide +kernel) ⟨_, _, rfl, q _⟩
theorem chain_b0 {aj : Bool} {x dx : Addr} {t0 : Tok} {od : Obj} {am : Str → Option Value} {hb : Heap} {Q : Value → Heap → Prop} (G : Gr (frag w.params) hb) (B : Sub [] hb h) (hn : hb.get? dx = none) (hh : A.handled = none) (hroom : A.depth < recursionLimit)
    (ho : h.get? x = some (instObj aSM dx)) (hdx : h.get? dx = some od) (ia : IsAttrs attrN od am) (hab : am (Str.ofString "b") = some (.str (Str.ofString "") t0)) (hj : am (Str.ofString "isjunk") = some .none) (haj : am (Str.ofString "autojunk") = some (.bool aj))
    (q : ∀ h' od' d dj dp, Sub [dx] h h' → h'.get? dx = some od' → IsAttrs attrN od' (upd (upd (upd am (Str.ofString "b2j") (.ref d)) (Str.ofString "bjunk") (.ref dj)) (Str.ofString "bpopular") (.ref dp)) → Q .none h') :
    TC prog w A (.call (.ref at_SequenceMatcher_chain_b) ⟨[.ref x], []⟩) h Q := by
  refine TC.def (binds := [(Str.ofString "self", .ref x)]) [(dx, od)] (fn_chain_b w.params) (G.sub B) hroom (by kernel_rfl!) (by kernel_rfl!) (by simpa using hdx) (by first | walk_at "mem" | simp) fun h₁ L H => ?_
  have e := (fn_chain_b w.params).ok L
  have hm : bindM [(Str.ofString "self", .ref x)] (Str.ofString "self") = some (.ref x) := (upd_here : upd (fun _ => none) (Str.ofString "self") (.ref x) (Str.ofString "self") = _)
  generalize bindM [(Str.ofString "self", Value.ref x)] = m at *
  have hk : ∀ y ∈ [Str.ofString "self", Str.ofString "b", Str.ofString "b2j", Str.ofString "i", Str.ofString "elt", Str.ofString "indices", Str.ofString "junk", Str.ofString "isjunk", Str.ofString "popular", Str.ofString "n"], (callEnv fdOf_SequenceMatcher_chain_b L at_SequenceMatcher_chain_b).kindOf y = some .local := by
    have : ([Str.ofString "self", Str.ofString "b", Str.ofString "b2j", Str.ofString "i", Str.ofString "elt", Str.ofString "indices", Str.ofString "junk", Str.ofString "isjunk", Str.ofString "popular", Str.ofString "n"].all fun y => decide ((callEnv fdOf_SequenceMatcher_chain_b L at_SequenceMatcher_chain_b).kindOf y = some .local)) = true := by kernel_rfl!
    exact fun y hy => of_decide_eq_true (List.all_eq_true.mp this y hy)
  have hg1 : (callEnv fdOf_SequenceMatcher_chain_b L at_SequenceMatcher_chain_b).kindOf (Str.ofString "enumerate") = some .globalImplicit := by kernel_rfl!
  have hg2 : (callEnv fdOf_SequenceMatcher_chain_b L at_SequenceMatcher_chain_b).kindOf (Str.ofString "set") = some .globalImplicit := by kernel_rfl!
  have hg3 : (callEnv fdOf_SequenceMatcher_chain_b L at_SequenceMatcher_chain_b).kindOf (Str.ofString "len") = some .globalImplicit := by kernel_rfl!
  generalize henv : callEnv fdOf_SequenceMatcher_chain_b L at_SequenceMatcher_chain_b = env at *
  have hL : L = env.locals := by rw [← henv]; rfl
  subst hL
  clear henv
  have hh' : (A.deeper env).handled = none := hh
  generalize A.deeper env = A' at *
  have hxd : x ≠ dx := fun q => by
    obtain ⟨es, n, e1, _⟩ := ia
    rw [q, hdx, e1] at ho; cases ho
  have GG : ∀ {m l h₂}, S h [dx] env.locals m l h₂ → Gr (frag w.params) h₂ := fun H => G.sub fun b o _ eb => H.base b o (fun q => by
    obtain rfl : b = dx := by simpa using q
    rw [hn] at eb; cases eb) (B b o (by first | walk_at "mem" | simp) eb)
  have Hx : ∀ {m l h₂}, S h [dx] env.locals m l h₂ → h₂.get? x = some (instObj aSM dx) := fun H => H.old ho (by simpa using hxd)
  replace H : S h [dx] env.locals m [(dx, od)] h₁ := H
  have low : ∀ {m l h₂ a}, S h [dx] env.locals m l h₂ → h₂.get? a = none → (a == sysModules) = false := fun H ha => by
    have := (GG H).k sysModules (PySem.W.boot_o_1 w.params) (by kernel_rfl!)
    refine beq_eq_false_iff_ne.mpr fun q => ?_
    rw [q, this] at ha; cases ha
  have P := plainSM w.params
  refine T.execs_cons (T.Assign_Name (T.Attribute ?_))
  refine T.Name e H hm ?_ (hk _ (by first | walk_at "mem" | simp)) (by decide +kernel)
  refine T.getAttr P (GG H).k ⟨Hx H, H.get (by first | walk_at "mem" | simp)⟩ ia hab (attrFind _ (by delta attrN; walk_at "mem")) rfl ?_
  refine T.storeName e H (fun h₂ H₂ => ?_) (hk _ (by first | walk_at "mem" | simp))
  refine T.execs_cons (t_Assign2 (t_Dict0 fun d h₃ ob s₃ n₃ g₃ d₃ => t_assignAttr ?_))
  have lo := low H₂ n₃
  have H₃ := H₂.add s₃ n₃ g₃
  refine T.Name e H₃ (by walk_at "look") ?_ (hk _ (by first | walk_at "mem" | simp)) (by decide +kernel)
  refine T.setAttr P (GG H₃).k H₃ 1 rfl (Hx H₃) ia (attrTake _ (by delta attrN; walk_at "mem")) (fun h₄ od₄ H₄ _ ia₄ _ => ?_) (by delta attrN; walk_at "mem") (by decide)
  refine t_assignName e H₄ (fun h₅ H₅ => ?_) (hk _ (by first | walk_at "mem" | simp))
  replace H₅ : S h [dx] env.locals _ [(d, ob), (dx, od₄)] h₅ := H₅
  have H₅' := H₅.perm (List.Perm.swap (dx, od₄) (d, ob) [])
  refine T.execs_cons (T.For (T.Call_Name ?_))
  refine T.builtin (v := .type "enumerate") e (GG H₅) (by kernel_rfl!) (by kernel_rfl!) ?_ hg1 (by decide +kernel) (by decide +kernel)
  refine T.callWith ?_ rfl
  refine T.Name e H₅ (by walk_at "look") ?_ (hk _ (by first | walk_at "mem" | simp)) (by decide +kernel)
  refine ⟨Keeps.type, ?_⟩
  refine tf_enum0 hh' H₅' fun h₆ H₆ => ?_
  refine T.eq rfl ?_
  refine T.execs_cons (t_Assign2 (T.Call_Name ?_))
  refine T.builtin (v := .type "set") e (GG H₆) (by kernel_rfl!) (by kernel_rfl!) ?_ hg2 (by decide +kernel) (by decide +kernel)
  refine T.callWith ?_ rfl
  refine ⟨Keeps.type, t_set0 fun dj h₇ led s₇ n₇ g₇ => t_assignAttr ?_⟩
  have H₇ := H₆.add s₇ n₇ g₇
  refine T.Name e H₇ (by walk_at "look") ?_ (hk _ (by first | walk_at "mem" | simp)) (by decide +kernel)
  refine T.setAttr P (GG H₇).k H₇ 1 rfl (Hx H₇) ia₄ (attrTake _ (by delta attrN; walk_at "mem")) (fun h₈ od₈ H₈ _ ia₈ _ => ?_) (by delta attrN; walk_at "mem") (by decide)
  refine t_assignName e H₈ (fun h₉ H₉ => ?_) (hk _ (by first | walk_at "mem" | simp))
  refine T.execs_cons (T.Assign_Name (T.Attribute ?_))
  refine T.Name e H₉ (by walk_at "look") ?_ (hk _ (by first | walk_at "mem" | simp)) (by decide +kernel)
  refine T.getAttr P (GG H₉).k ⟨Hx H₉, H₉.get (by first | walk_at "mem" | simp)⟩ ia₈ (v := .none) (by walk_at "look") (attrFind _ (by delta attrN; walk_at "mem")) rfl ?_
  refine T.storeName e H₉ (fun h₁₀ H₁₀ => ?_) (hk _ (by first | walk_at "mem" | simp))
  refine T.execs_cons (T.If (t_isTrue_plain ?_))
  refine T.Name e H₁₀ (by walk_at "look") ?_ (hk _ (by first | walk_at "mem" | simp)) (by decide +kernel)
  refine t_truthy_none ?_
  refine T.execs_nil ?_
  refine T.execs_cons (t_Assign2 (T.Call_Name ?_))
  refine T.builtin (v := .type "set") e (GG H₁₀) (by kernel_rfl!) (by kernel_rfl!) ?_ hg2 (by decide +kernel) (by decide +kernel)
  refine T.callWith ?_ rfl
  refine ⟨Keeps.type, t_set0 fun dp h₁₁ led' s₁₁ n₁₁ g₁₁ => t_assignAttr ?_⟩
  have H₁₁ := H₁₀.add s₁₁ n₁₁ g₁₁
  refine T.Name e H₁₁ (by walk_at "look") ?_ (hk _ (by first | walk_at "mem" | simp)) (by decide +kernel)
  refine T.setAttr P (GG H₁₁).k H₁₁ 2 rfl (Hx H₁₁) ia₈ (attrTake _ (by delta attrN; walk_at "mem")) (fun h₁₂ od₁₂ H₁₂ _ ia₁₂ _ => ?_) (by delta attrN; walk_at "mem") (by decide)
  refine t_assignName e H₁₂ (fun h₁₃ H₁₃ => ?_) (hk _ (by first | walk_at "mem" | simp))
  refine T.execs_cons (T.Assign_Name (T.Call_Name ?_))
  refine T.builtin (v := .builtin "len") e (GG H₁₃) (by kernel_rfl!) (by kernel_rfl!) ?_ hg3 (by decide +kernel) (by decide +kernel)
  refine T.callWith ?_ rfl
  refine T.Name e H₁₃ (by walk_at "look") ?_ (hk _ (by first | walk_at "mem" | simp)) (by decide +kernel)
  refine ⟨Keeps.builtin, t_len0 fun t => ?_⟩
  refine T.storeName e H₁₃ (fun h₁₄ H₁₄ => ?_) (hk _ (by first | walk_at "mem" | simp))
  refine T.execs_cons (T.If (t_isTrue_and (t_isTrue_plain (T.Attribute ?_))))
  refine T.Name e H₁₄ (by walk_at "look") ?_ (hk _ (by first | walk_at "mem" | simp)) (by decide +kernel)
  refine T.getAttr P (GG H₁₄).k ⟨Hx H₁₄, H₁₄.get (by first | walk_at "mem" | simp)⟩ ia₁₂ (v := .bool aj) (by walk_at "look") (attrFind _ (by delta attrN; walk_at "mem")) rfl ?_
  refine T.truthy_bool ?_
  have fin : T prog w A' (execs [] env) h₁₄ fun f h' => match f with | .next => T prog w A' (execs [] env) h' (fun fl h' => Q (match fl with | .ret v => v | _ => .none) h') | f => Q (match f with | .ret v => v | _ => .none) h' := by
    refine T.execs_nil (T.execs_nil ?_)
    exact q h₁₄ od₁₂ d dj dp H₁₄.base (H₁₄.get (by first | walk_at "mem" | simp)) ia₁₂
  cases aj with
  | false => exact fin
  | true =>
    rw [if_pos rfl]
    refine t_isTrue_and (T.isTrue_Compare ?_)
    refine T.Name e H₁₄ (by walk_at "look") ?_ (hk _ (by first | walk_at "mem" | simp)) (by decide +kernel)
    refine T.cInt fun t2 => T.ge (T.truthy_bool ?_)
    rw [if_neg (by decide), if_neg (by first | walk_at "mem" | simp)]
    exact fin

theorem set_seq20 {aj : Bool} {x dx : Addr} {t0 : Tok} {u : Value} {od : Obj} {am : Str → Option Value} {hb : Heap} {Q : Value → Heap → Prop} (G : Gr (frag w.params) hb) (B : Sub [] hb h) (hn : hb.get? dx = none) (hh : A.handled = none) (hroom : A.depth + 3 < recursionLimit)
    (ho : h.get? x = some (instObj aSM dx)) (hdx : h.get? dx = some od) (ia : IsAttrs attrN od am) (ha : am (Str.ofString "b") = some u) (hu : handedIn u = true) (hd : Differs h (.str (Str.ofString "") t0) u) (nu : u ≠ .ref dx)
    (hj : am (Str.ofString "isjunk") = some .none) (haj : am (Str.ofString "autojunk") = some (.bool aj)) (hmeth : am (Str.ofString "_SequenceMatcher__chain_b") = none)
    (q : ∀ h' od' d dj dp, Sub [dx] h h' → h'.get? dx = some od' → IsAttrs attrN od' (am2 am (.str (Str.ofString "") t0) d dj dp) → Q .none h') :
    TC prog w A (.call (.ref at_SequenceMatcher_set_seq2) ⟨[.ref x, .str (Str.ofString "") t0], []⟩) h Q := by
  refine TC.def (binds := [(Str.ofString "self", .ref x), (Str.ofString "b", .str (Str.ofString "") t0)]) [(dx, od)] (fn_set_seq2 w.params) (G.sub B) (by (first | lia | omega)) (by kernel_rfl!) (by kernel_rfl!) (by simpa using hdx) (by first | walk_at "mem" | simp) fun h₁ L H => ?_
  have e := (fn_set_seq2 w.params).ok L
  have k1 : (callEnv fdOf_SequenceMatcher_set_seq2 L at_SequenceMatcher_set_seq2).kindOf (Str.ofString "self") = some .local := by kernel_rfl!
  have k2 : (callEnv fdOf_SequenceMatcher_set_seq2 L at_SequenceMatcher_set_seq2).kindOf (Str.ofString "b") = some .local := by kernel_rfl!
  replace H : S h [dx] L (upd (upd (fun _ => none) (Str.ofString "self") (.ref x)) (Str.ofString "b") (.str (Str.ofString "") t0)) [(dx, od)] h₁ := H
  generalize henv : callEnv fdOf_SequenceMatcher_set_seq2 L at_SequenceMatcher_set_seq2 = env at *
  have hL : L = env.locals := by rw [← henv]; rfl
  subst hL
  clear henv
  have hh' : (A.deeper env).handled = none := hh
  have hd' : (A.deeper env).depth + 2 < recursionLimit := by show A.depth + 1 + 2 < _; (first | lia | omega)
  generalize A.deeper env = A' at *
  have hxd := inst_ne ho hdx ia
  have GG : ∀ {m l h₂}, S h [dx] env.locals m l h₂ → Gr (frag w.params) h₂ := fun H => gr_in G B hn H
  have Hx : ∀ {m l h₂}, S h [dx] env.locals m l h₂ → h₂.get? x = some (instObj aSM dx) := fun H => H.old ho (by simpa using hxd)
  have P := plainSM w.params
  refine T.execs_cons (T.Expr (T.cStr fun t => ⟨(fun b q => by cases q), ?_⟩) e.inter)
  refine T.execs_cons (T.If (T.isTrue_Compare ?_))
  walk_at "nm"
  refine T.Attribute ?_
  walk_at "nm"
  refine T.getAttr P (GG H).k ⟨Hx H, H.get (by first | walk_at "mem" | simp)⟩ ia ha (attrFind _ (by delta attrN; walk_at "mem")) hu ?_
  refine t_is_no (hd.sub (D := [dx]) H.base (fun a q => by cases q) (fun a q => by subst q; simpa using fun z => nu (by rw [z]))) ?_
  refine T.truthy_bool ?_
  refine T.execs_nil ?_
  refine T.execs_cons (t_Assign_Attr ?_)
  walk_at "nm"
  walk_at "nm"
  refine T.setAttr P (GG H).k H 0 rfl (Hx H) ia (attrTake _ (by delta attrN; walk_at "mem")) (fun h₂ od₂ H₂ _ ia₂ _ => ?_) (by delta attrN; walk_at "mem") (by decide)
  refine T.execs_cons (t_Assign2 (T.cNone (t_assignAttr ?_)))
  walk_at "nm"
  refine T.setAttr P (GG H₂).k H₂ 0 rfl (Hx H₂) ia₂ (attrTake _ (by delta attrN; walk_at "mem")) (fun h₃ od₃ H₃ _ ia₃ _ => t_assignAttr ?_) (by delta attrN; walk_at "mem") (by decide)
  walk_at "nm"
  refine T.setAttr P (GG H₃).k H₃ 0 rfl (Hx H₃) ia₃ (attrTake _ (by delta attrN; walk_at "mem")) (fun h₄ od₄ H₄ _ ia₄ _ => ?_) (by delta attrN; walk_at "mem") (by decide)
  refine T.execs_cons (t_Assign_Attr (T.cNone ?_))
  walk_at "nm"
  refine T.setAttr P (GG H₄).k H₄ 0 rfl (Hx H₄) ia₄ (attrTake _ (by delta attrN; walk_at "mem")) (fun h₅ od₅ H₅ _ ia₅ _ => ?_) (by delta attrN; walk_at "mem") (by decide)
  refine T.execs_cons (T.Expr (T.Call_method ?_) e.inter)
  walk_at "nm"
  refine T.getMeth (f := at_SequenceMatcher_chain_b) P (GG H₅).k ⟨Hx H₅, H₅.get (by first | walk_at "mem" | simp)⟩ ia₅ (by walk_at "look") (by kernel_rfl!) (by kernel_rfl!) ?_
  refine T.callWith ⟨Keeps.frag (GG H₅).k (by kernel_rfl!), T.call ?_⟩ rfl
  have B₅ : Sub [] hb h₅ := fun b o _ eb => H₅.base b o (fun q => by
    obtain rfl : b = dx := by simpa using q
    rw [hn] at eb; cases eb) (B b o (by first | walk_at "mem" | simp) eb)
  refine chain_b0 G B₅ hn hh' (by (first | lia | omega)) (Hx H₅) (H₅.get (by first | walk_at "mem" | simp)) ia₅ (by walk_at "look") (by walk_at "look") (by walk_at "look") fun h₆ od₆ d dj dp s₆ g₆ ia₆ => ⟨(fun b q => by cases q), ?_⟩
  exact T.execs_nil (q h₆ od₆ d dj dp (H₅.base.trans s₆) g₆ ia₆)

theorem set_seqs0 {aj : Bool} {x dx : Addr} {t0 t1 : Tok} {u v : Value} {od : Obj} {am : Str → Option Value} {hb : Heap} {Q : Value → Heap → Prop} (G : Gr (frag w.params) hb) (B : Sub [] hb h) (hn : hb.get? dx = none) (hh : A.handled = none) (hroom : A.depth + 5 < recursionLimit)
    (ho : h.get? x = some (instObj aSM dx)) (hdx : h.get? dx = some od) (ia : IsAttrs attrN od am) (ha : am (Str.ofString "a") = some v) (hv : handedIn v = true) (hda : Differs h (.str (Str.ofString "") t0) v) (nv : v ≠ .ref dx)
    (hb' : am (Str.ofString "b") = some u) (hu : handedIn u = true) (hd : Differs h (.str (Str.ofString "") t1) u) (nu : u ≠ .ref dx)
    (hj : am (Str.ofString "isjunk") = some .none) (haj : am (Str.ofString "autojunk") = some (.bool aj)) (hm1 : am (Str.ofString "set_seq1") = none) (hm2 : am (Str.ofString "set_seq2") = none) (hmeth : am (Str.ofString "_SequenceMatcher__chain_b") = none)
    (q : ∀ h' od' d dj dp, Sub [dx] h h' → h'.get? dx = some od' → IsAttrs attrN od' (am2 (upd (upd (upd am (Str.ofString "a") (.str (Str.ofString "") t0)) (Str.ofString "matching_blocks") .none) (Str.ofString "opcodes") .none) (.str (Str.ofString "") t1) d dj dp) → Q .none h') :
    TC prog w A (.call (.ref at_SequenceMatcher_set_seqs) ⟨[.ref x, .str (Str.ofString "") t0, .str (Str.ofString "") t1], []⟩) h Q := by
  refine TC.def (binds := [(Str.ofString "self", .ref x), (Str.ofString "a", .str (Str.ofString "") t0), (Str.ofString "b", .str (Str.ofString "") t1)]) [(dx, od)] (fn_set_seqs w.params) (G.sub B) (by (first | lia | omega)) (by kernel_rfl!) (by kernel_rfl!) (by simpa using hdx) (by first | walk_at "mem" | simp) fun h₁ L H => ?_
  have e := (fn_set_seqs w.params).ok L
  have k1 : (callEnv fdOf_SequenceMatcher_set_seqs L at_SequenceMatcher_set_seqs).kindOf (Str.ofString "self") = some .local := by kernel_rfl!
  have k2 : (callEnv fdOf_SequenceMatcher_set_seqs L at_SequenceMatcher_set_seqs).kindOf (Str.ofString "a") = some .local := by kernel_rfl!
  have k3 : (callEnv fdOf_SequenceMatcher_set_seqs L at_SequenceMatcher_set_seqs).kindOf (Str.ofString "b") = some .local := by kernel_rfl!
  replace H : S h [dx] L (upd (upd (upd (fun _ => none) (Str.ofString "self") (.ref x)) (Str.ofString "a") (.str (Str.ofString "") t0)) (Str.ofString "b") (.str (Str.ofString "") t1)) [(dx, od)] h₁ := H
  generalize henv : callEnv fdOf_SequenceMatcher_set_seqs L at_SequenceMatcher_set_seqs = env at *
  have hL : L = env.locals := by rw [← henv]; rfl
  subst hL
  clear henv
  have hh' : (A.deeper env).handled = none := hh
  have hd' : (A.deeper env).depth + 4 < recursionLimit := by show A.depth + 1 + 4 < _; (first | lia | omega)
  generalize A.deeper env = A' at *
  have hxd := inst_ne ho hdx ia
  have GG : ∀ {m l h₂}, S h [dx] env.locals m l h₂ → Gr (frag w.params) h₂ := fun H => gr_in G B hn H
  have Hx : ∀ {m l h₂}, S h [dx] env.locals m l h₂ → h₂.get? x = some (instObj aSM dx) := fun H => H.old ho (by simpa using hxd)
  have BB : ∀ {m l h₂}, S h [dx] env.locals m l h₂ → Sub [] hb h₂ := fun H b o _ eb => H.base b o (fun q => by
    obtain rfl : b = dx := by simpa using q
    rw [hn] at eb; cases eb) (B b o (by first | walk_at "mem" | simp) eb)
  have P := plainSM w.params
  refine T.execs_cons (T.Expr (T.cStr fun t => ⟨(fun b q => by cases q), ?_⟩) e.inter)
  refine T.execs_cons (T.Expr (T.Call_method ?_) e.inter)
  walk_at "nm"
  refine T.getMeth (f := at_SequenceMatcher_set_seq1) P (GG H).k ⟨Hx H, H.get (by first | walk_at "mem" | simp)⟩ ia hm1 (by kernel_rfl!) (by kernel_rfl!) ?_
  refine T.callWith ?_ rfl
  walk_at "nm"
  refine ⟨Keeps.frag (GG H).k (by kernel_rfl!), T.call ?_⟩
  refine set_seq1 G (BB H) hn (by (first | lia | omega)) (Hx H) (H.get (by first | walk_at "mem" | simp)) ia ha hv (hda.sub (D := [dx]) H.base (fun a q => by cases q) (fun a q => by subst q; simpa using fun z => nv (by rw [z]))) (by first | walk_at "mem" | simp) nv fun h₂ od₂ s₂ g₂ ia₂ => ⟨(fun b q => by cases q), ?_⟩
  have H₂ := H.upd 0 rfl s₂ g₂
  refine T.execs_cons (T.Expr (T.Call_method ?_) e.inter)
  walk_at "nm"
  refine T.getMeth (f := at_SequenceMatcher_set_seq2) P (GG H₂).k ⟨Hx H₂, H₂.get (by first | walk_at "mem" | simp)⟩ ia₂ (by walk_at "look") (by kernel_rfl!) (by kernel_rfl!) ?_
  refine T.callWith ?_ rfl
  walk_at "nm"
  refine ⟨Keeps.frag (GG H₂).k (by kernel_rfl!), T.call ?_⟩
  refine set_seq20 G (BB H₂) hn hh' (by (first | lia | omega)) (Hx H₂) (H₂.get (by first | walk_at "mem" | simp)) ia₂ (u := u) (by walk_at "look") hu (hd.sub (D := [dx]) H₂.base (fun a q => by cases q) (fun a q => by subst q; simpa using fun z => nu (by rw [z]))) nu (by walk_at "look") (by walk_at "look") (by walk_at "look") fun h₃ od₃ d dj dp s₃ g₃ ia₃ => ⟨(fun b q => by cases q), ?_⟩
  exact T.execs_nil (q h₃ od₃ d dj dp (H₂.base.trans s₃) g₃ ia₃)

noncomputable def amT (ta tb : Tok) (d dj dp : Addr) : Str → Option Value :=
  am2 (upd (upd (upd (upd (upd (upd (upd (fun _ => none) (Str.ofString "isjunk") .none) (Str.ofString "a") .none) (Str.ofString "b") .none) (Str.ofString "autojunk") (.bool true)) (Str.ofString "a") (.str (Str.ofString "") ta)) (Str.ofString "matching_blocks") .none) (Str.ofString "opcodes") .none) (.str (Str.ofString "") tb) d dj dp

theorem init_matcher0 {x dx : Addr} {hb : Heap} {Q : Value → Heap → Prop} (G : Gr (frag w.params) hb) (B : Sub [] hb h) (hn : hb.get? dx = none) (hh : A.handled = none) (hroom : A.depth + 7 < recursionLimit)
    (ho : h.get? x = some (instObj aSM dx)) (hdx : h.get? dx = some (dictOf [] 0))
    (q : ∀ h' od' d dj dp, Sub [dx] h h' → h'.get? dx = some od' → IsAttrs attrN od' (amT 404 405 d dj dp) → Q .none h') :
    TC prog w A (.call (.ref at_SequenceMatcher_init) ⟨[.ref x], []⟩) h Q := by
  have ia : IsAttrs attrN (dictOf [] 0) fun _ => none := IsAttrs.nil
  refine TC.defB (binds := [(Str.ofString "self", .ref x), (Str.ofString "isjunk", .none), (Str.ofString "a", .str (Str.ofString "") 404), (Str.ofString "b", .str (Str.ofString "") 405), (Str.ofString "autojunk", .bool true)]) [(dx, dictOf [] 0)] (fn_init w.params) (G.sub B) (by (first | lia | omega)) (bindsK (T := 153) (o := o153 w.params) (G.sub B).k rfl (by kernel_rfl!) rfl rfl rfl) (by kernel_rfl!) (by simpa using hdx) (by first | walk_at "mem" | simp) fun h₁ L H => ?_
  have e := (fn_init w.params).ok L
  have k1 : (callEnv fdOf_SequenceMatcher_init L at_SequenceMatcher_init).kindOf (Str.ofString "self") = some .local := by kernel_rfl!
  have k2 : (callEnv fdOf_SequenceMatcher_init L at_SequenceMatcher_init).kindOf (Str.ofString "a") = some .local := by kernel_rfl!
  have k3 : (callEnv fdOf_SequenceMatcher_init L at_SequenceMatcher_init).kindOf (Str.ofString "b") = some .local := by kernel_rfl!
  have k4 : (callEnv fdOf_SequenceMatcher_init L at_SequenceMatcher_init).kindOf (Str.ofString "isjunk") = some .local := by kernel_rfl!
  have k5 : (callEnv fdOf_SequenceMatcher_init L at_SequenceMatcher_init).kindOf (Str.ofString "autojunk") = some .local := by kernel_rfl!
  replace H : S h [dx] L (upd (upd (upd (upd (upd (fun _ => none) (Str.ofString "self") (.ref x)) (Str.ofString "isjunk") .none) (Str.ofString "a") (.str (Str.ofString "") 404)) (Str.ofString "b") (.str (Str.ofString "") 405)) (Str.ofString "autojunk") (.bool true)) [(dx, dictOf [] 0)] h₁ := H
  generalize henv : callEnv fdOf_SequenceMatcher_init L at_SequenceMatcher_init = env at *
  have hL : L = env.locals := by rw [← henv]; rfl
  subst hL
  clear henv
  have hh' : (A.deeper env).handled = none := hh
  have hd' : (A.deeper env).depth + 6 < recursionLimit := by show A.depth + 1 + 6 < _; (first | lia | omega)
  generalize A.deeper env = A' at *
  have hxd := inst_ne ho hdx ia
  have GG : ∀ {m l h₂}, S h [dx] env.locals m l h₂ → Gr (frag w.params) h₂ := fun H => gr_in G B hn H
  have Hx : ∀ {m l h₂}, S h [dx] env.locals m l h₂ → h₂.get? x = some (instObj aSM dx) := fun H => H.old ho (by simpa using hxd)
  have BB : ∀ {m l h₂}, S h [dx] env.locals m l h₂ → Sub [] hb h₂ := fun H b o _ eb => H.base b o (fun q => by
    obtain rfl : b = dx := by simpa using q
    rw [hn] at eb; cases eb) (B b o (by first | walk_at "mem" | simp) eb)
  have P := plainSM w.params
  refine T.execs_cons (T.Expr (T.cStr fun t => ⟨(fun b q => by cases q), ?_⟩) e.inter)
  refine T.execs_cons (t_Assign_Attr ?_)
  walk_at "nm"
  walk_at "nm"
  refine T.setAttr P (GG H).k H 0 rfl (Hx H) ia (attrTake _ (by delta attrN; walk_at "mem")) (fun h₂ od₂ H₂ _ ia₂ _ => ?_) (by delta attrN; walk_at "mem") (by decide)
  refine T.execs_cons (t_Assign2 (T.cNone (t_assignAttr ?_)))
  walk_at "nm"
  refine T.setAttr P (GG H₂).k H₂ 0 rfl (Hx H₂) ia₂ (attrTake _ (by delta attrN; walk_at "mem")) (fun h₃ od₃ H₃ _ ia₃ _ => t_assignAttr ?_) (by delta attrN; walk_at "mem") (by decide)
  walk_at "nm"
  refine T.setAttr P (GG H₃).k H₃ 0 rfl (Hx H₃) ia₃ (attrTake _ (by delta attrN; walk_at "mem")) (fun h₄ od₄ H₄ _ ia₄ _ => ?_) (by delta attrN; walk_at "mem") (by decide)
  refine T.execs_cons (t_Assign_Attr ?_)
  walk_at "nm"
  walk_at "nm"
  refine T.setAttr P (GG H₄).k H₄ 0 rfl (Hx H₄) ia₄ (attrTake _ (by delta attrN; walk_at "mem")) (fun h₅ od₅ H₅ _ ia₅ _ => ?_) (by delta attrN; walk_at "mem") (by decide)
  refine T.execs_cons (T.Expr (T.Call_method ?_) e.inter)
  walk_at "nm"
  refine T.getMeth (f := at_SequenceMatcher_set_seqs) P (GG H₅).k ⟨Hx H₅, H₅.get (by first | walk_at "mem" | simp)⟩ ia₅ (by repeat (first | exact rfl | refine upd_next (by decide +kernel) ?_)) (by kernel_rfl!) (by kernel_rfl!) ?_
  refine T.callWith ?_ rfl
  walk_at "nm"
  walk_at "nm"
  refine ⟨Keeps.frag (GG H₅).k (by kernel_rfl!), T.call ?_⟩
  refine set_seqs0 G (BB H₅) hn hh' (by (first | lia | omega)) (Hx H₅) (H₅.get (by first | walk_at "mem" | simp)) ia₅ (v := .none) (u := .none) (by walk_at "look") rfl (.inl ⟨rfl, by simp⟩) (by first | walk_at "mem" | simp) (by walk_at "look") rfl (.inl ⟨rfl, by simp⟩) (by first | walk_at "mem" | simp) (by walk_at "look") (by walk_at "look") (by repeat (first | exact rfl | refine upd_next (by decide +kernel) ?_)) (by repeat (first | exact rfl | refine upd_next (by decide +kernel) ?_)) (by repeat (first | exact rfl | refine upd_next (by decide +kernel) ?_)) fun h₆ od₆ d dj dp s₆ g₆ ia₆ => ⟨(fun b q => by cases q), ?_⟩
  exact T.execs_nil (q h₆ od₆ d dj dp (H₅.base.trans s₆) g₆ ia₆)

theorem make_matcher0 {L : Addr} {m : Str → Option Value} {l : List (Addr × Obj)} {Q : Value → Heap → Prop} (G : Gr (frag w.params) h₀) (H : S h₀ [] L m l h) (hh : A.handled = none) (hroom : A.depth + 12 < recursionLimit)
    (q : ∀ x dx h' od' d dj dp, S h₀ [] L m ((x, instObj aSM dx) :: (dx, od') :: l) h' → IsAttrs attrN od' (amT 404 405 d dj dp) → (∀ b o, b ≠ L → h.get? b = some o → h'.get? b = some o) → Q (.ref x) h') :
    T prog w A (call (.ref aSM) []) h Q := by
  refine T.call (TC.make (K := frag w.params) (fI := at_SequenceMatcher_init) (H.gr G).k (by kernel_rfl!) (by kernel_rfl!) (by kernel_rfl!) H.ns fun x dx h₁ s₁ n₁ gx gdx fx fdx => ?_)
  have H₁ := H.frame s₁ n₁
  have f1 := H.fresh fdx
  have f2 := H.fresh fx
  have hxd : x ≠ dx := fun q => by rw [q, gdx] at gx; cases gx
  refine init_matcher0 G (fun b o nb eb => H₁.base b o nb eb) f1.1 hh ?_ gx gdx fun h₂ od₂ d dj dp s₂ g₂ ia₂ => ⟨rfl, ?_⟩
  · rw [depth_under_make]; (first | lia | omega)
  · have H₂ : S h₀ [] L m l h₂ := H₁.keepBut s₂ fun b hb => by
      obtain rfl : b = dx := by simpa using hb
      exact ⟨by simp, f1.1, f1.2.1, f1.2.2⟩
    have gx₂ : h₂.get? x = some (instObj aSM dx) := s₂ _ _ (by simpa using hxd) gx
    have H₃ := (H₂.track g₂ f1.1 f1.2.1 f1.2.2).track gx₂ f2.1 f2.2.1 (by
      rw [List.map_append, List.mem_append]
      exact fun q => q.elim f2.2.2 fun q => hxd (by simpa using q))
    refine q x dx h₂ od₂ d dj dp (H₃.perm ?_) ia₂ fun b o nb eb => s₂ b o (fun q => ?_) (s₁ b o (by simpa using nb) eb)
    · rw [List.append_assoc]
      exact (List.perm_append_comm).trans (List.Perm.swap _ _ _)
    · obtain rfl : b = dx := by simpa using q
      rw [fdx] at eb; cases eb
end
end Mine

end
section
open PySem PySem.W PyProof.Rows PySem.Calls
set_option Elab.async false
set_option linter.unusedVariables false
set_option maxRecDepth 100000
set_option maxHeartbeats 4000000
namespace Mine
section
variable {X : Fm} {Γ Γ' Γc : Ctx} {F F' : Store} {m : Str → Option Value} {l : List (Addr × Obj)} {h h' : Heap} {Q : Out → Prop} {rest : List Stmt} {s : Scope} {cn : List Str}
inductive IsL : PV → List PV → Prop
  | list (xs : List PV) : IsL (.list xs) xs
  | rlist (xs : List PV) : IsL (.rlist xs) xs
theorem Holds.lst (ok : FmOk X) (H : Holds X Γ F m l h) {v : Value} {p : PV} {xs : List PV} (il : IsL p xs) (r : Rep X.prog X.w F (RS X l) v p) : ∃ a vs, v = .ref a ∧ h.IsList a (List.toArray vs) ∧ Reps X.prog X.w F (RS X l) vs xs := by
  cases il with
  | list =>
    obtain ⟨_, _, _, rfl, h1, h2, h3⟩ := r.l
    exact ⟨_, _, rfl, h2.isList (H.fz _ _ h1).1, h3⟩
  | rlist => cases r with | rlist h1 h2 h3 => exact ⟨_, _, rfl, h2.isList (H.rs ok h1), h3⟩
theorem E.callB {f : Str} {pf pos : Pos} {fv : Value} {es : List PySem.Expr} {ps : List PV} {r : PV} (ef : E X Γ (.Name f pf) (.raw fv)) (ea : EA X Γ es ps)
    (k : ∀ F m l h vs, Holds X Γ F m l h → Reps X.prog X.w F (RS X l) vs ps → Keeps X.prog X.w fv h ∧ TP X.prog X.w X.A (PySem.call fv vs) h fun v h' => ∃ F', (∀ a o, F a o → F' a o) ∧ Holds X Γ F' m l h' ∧ Rep X.prog X.w F' (RS X l) v r) (hst : noStars es = true) :
    E X Γ (.Call (.Name f pf) es [] pos) r := fun F m l h H => call_T ef ea H (fun F₁ h₁ vs le₁ H₁ rs => ⟨(k F₁ m l h₁ vs H₁ rs).1, (k F₁ m l h₁ vs H₁ rs).2.mono fun v h₂ ⟨F₂, le₂, H₂, r₂⟩ => ⟨F₂, fun a o e => le₂ a o (le₁ a o e), H₂, r₂⟩⟩) hst
theorem E.len (ok : FmOk X) {f : Str} {pf pos : Pos} {e : PySem.Expr} {p : PV} {xs : List PV} (ef : E X Γ (.Name f pf) (.raw (.builtin "len"))) (ee : E X Γ e p) (il : IsL p xs) (hz : xs.length < 2 ^ 62) (hst : noStars [e] = true) : E X Γ (.Call (.Name f pf) [e] [] pos) (.int xs.length) :=
  E.callB ef (.cons ee .nil) (fun F m l h vs H rs => ⟨Keeps.builtin, by
    obtain ⟨_, rfl, r1⟩ := rs.one
    obtain ⟨a, us, rfl, hl, rs⟩ := H.lst ok il r1
    have := rs.length
    refine TP.of (t_len hl (by (first | lia | omega)) fun t => ⟨F, fun _ _ e => e, H, ?_⟩)
    rw [this]; exact .int _ t⟩) hst
theorem E.abs {f : Str} {pf pos : Pos} {e : PySem.Expr} {i : Int} (ef : E X Γ (.Name f pf) (.raw (.builtin "abs"))) (ee : E X Γ e (.int i)) (hst : noStars [e] = true) : E X Γ (.Call (.Name f pf) [e] [] pos) (.int (if i < 0 then -i else i)) :=
  E.callB ef (.cons ee .nil) (fun F m l h vs H rs => ⟨Keeps.builtin, by
    obtain ⟨_, rfl, r1⟩ := rs.one
    obtain ⟨t, rfl⟩ := r1.i
    exact TP.of fun s es => by
      subst es
      exact call_abs_int fun u tk => ⟨_, tk, rfl, F, fun _ _ e => e, H, .int _ u⟩⟩) hst
theorem E.sum (ok : FmOk X) {f : Str} {pf pos : Pos} {e : PySem.Expr} {p : PV} {ns : List Int} (ef : E X Γ (.Name f pf) (.raw (.builtin "sum"))) (ee : E X Γ e p) (il : IsL p (ns.map .int)) (hst : noStars [e] = true) : E X Γ (.Call (.Name f pf) [e] [] pos) (.int ns.sum) :=
  E.callB ef (.cons ee .nil) (fun F m l h vs H rs => ⟨Keeps.builtin, by
    · obtain ⟨_, rfl, r1⟩ := rs.one
      obtain ⟨a, us, rfl, hl, rs⟩ := H.lst ok il r1
      refine TP.of fun s es => ?_
      subst es
      refine LSm.sum_ints (frAll H.s.ns) newsAll ok.hh hl rs.toInts fun h' tk t' F' N' => ⟨h', tk, rfl, F, fun _ _ e => e, ?_, .int _ t'⟩
      have sb := sub_of_news (extra := []) N'
      refine { s := H.s.frame sb F'.ns, fz := fun a o e => ⟨sb _ _ (by simpa using (H.fz a o e).2.1) (H.fz a o e).1, (H.fz a o e).2⟩, fn := H.fn, f0 := H.f0, nm := H.nm, inj := H.inj, cel := H.cel }⟩) hst
theorem E.isinst {f : Str} {pf pt pos : Pos} {e : PySem.Expr} {x : UInt64} {g : Str} (ef : E X Γ (.Name f pf) (.raw (.builtin "isinstance"))) (ee : E X Γ e (.flt x)) (et : E X Γ (.Name g pt) (.raw (.type "float"))) (hst : noStars [e, .Name g pt] = true) : E X Γ (.Call (.Name f pf) [e, .Name g pt] [] pos) (.bool true) :=
  E.callB ef (.cons ee (.cons et .nil)) (fun F m l h vs H rs => ⟨Keeps.builtin, by
    obtain ⟨_, _, rfl, r1, r2⟩ := rs.two
    obtain ⟨t, rfl, n⟩ := r1.f
    obtain rfl := r2.r
    exact TP.of fun s es => by
      subst es
      exact call_isinstance_yes (Tx := "float") (AutoFloatOps.typeIs_float s x t) (by first | rfl | kernel_rfl) (by rw [isSubtype_type]; kernel_rfl) ⟨_, s.toks, rfl, F, fun _ _ e => e, H, .bool true⟩⟩) hst
theorem N.listOf (ok : FmOk X) {f : Str} {pf pos : Pos} {e : PySem.Expr} {p : PV} {xs : List PV} (ef : E X Γ (.Name f pf) (.raw (.type "list"))) (ee : E X Γ e p) (il : IsL p xs) (hz : xs.length ≤ 1000000) (hst : noStars [e] = true) : N X Γ (.Call (.Name f pf) [e] [] pos) (.list xs) := fun F m l h H =>
  call_T ef (.cons ee .nil) H (fun F₁ h₁ vs le₁ H₁ rs => ⟨Keeps.type, by
    · obtain ⟨_, rfl, r1⟩ := rs.one
      obtain ⟨a, us, rfl, hl, rs⟩ := H₁.lst ok il r1
      obtain ⟨ob, ho, hc, n, hd⟩ := id hl
      refine TP.of fun s es => ?_
      subst es
      have := rs.length
      refine call_list_seq a (T := "list") (.inl rfl) ho hc hd (fun h' c' hk ho' => ⟨h', s.toks, rfl, F₁, _, _, le₁, H₁.sub (Sub.of_keep hk), rfl, ho', H₁.fresh (get_size_none _), .list ⟨c', rfl⟩ rs⟩) (by rw [sizeLine_eq]; simp; (first | lia | omega))⟩) hst
theorem EA.length {es : List PySem.Expr} {ps : List PV} (x : EA X Γ es ps) : es.length = ps.length := by
  induction x with
  | nil => rfl
  | cons _ _ ih => simp [ih]
theorem N.disp (ok : FmOk X) {es : List PySem.Expr} {pos : Pos} {ps : List PV} (ea : EA X Γ es ps) (hst : noStars es = true) (hz : es.length ≤ 1000) : N X Γ (.List es pos) (.list ps) := fun F m l h H =>
  p_List ((ea.t H).mono fun vs h₁ ⟨F₁, le₁, H₁, r₁⟩ => by
    have e1 := r₁.length
    have e2 := ea.length
    exact ⟨by rw [sizeLine_eq]; (first | lia | omega), fun a h' o sb n g lt => ⟨F₁, a, o, le₁, H₁.sub sb, rfl, g, H₁.fresh n, .list lt r₁⟩⟩) hst
theorem E.tup (ok : FmOk X) {es : List PySem.Expr} {k : Nat} {pos : Pos} {ps : List PV} (ea : EA X Γ es ps) (hst : noStars es = true) (hz : es.length ≤ 1000) : E X Γ (.Tuple es k pos) (.tup ps) := fun F m l h H =>
  p_Tuple ((ea.t H).mono fun vs h₁ ⟨F₁, le₁, H₁, r₁⟩ => by
    have e1 := r₁.length
    have e2 := ea.length
    refine ⟨by rw [sizeLine_eq]; (first | lia | omega), fun a h' o sb n g lt => ⟨F₁.add a o, fun a o e => .inl (le₁ a o e), H₁.freeze sb n g, .tup (.inr ⟨rfl, rfl⟩) lt (r₁.mono (fun _ _ e => .inl e) fun _ _ e => e)⟩⟩) hst
theorem N.cat (ok : FmOk X) {a b : PySem.Expr} {pos : Pos} {p q : PV} {xs ys : List PV} (ea : E X Γ a p) (eb : E X Γ b q) (ip : IsL p xs) (iq : IsL q ys) (hz : xs.length + ys.length ≤ 1000000) : N X Γ (.BinOp a .Add b pos) (.list (xs ++ ys)) := fun F m l h H =>
  TP.BinOp ((ea F m l h H).mono fun u h₁ ⟨F₁, le₁, H₁, r₁⟩ => (eb F₁ m l h₁ H₁).mono fun v h₂ ⟨F₂, le₂, H₂, r₂⟩ => by
    obtain ⟨a, us, rfl, hl, rs⟩ := H₂.lst ok ip (r₁.mono le₂ fun _ _ e => e)
    obtain ⟨b, ws, rfl, hl', rs'⟩ := H₂.lst ok iq r₂
    have e1 := rs.length
    have e2 := rs'.length
    exact TP.of (t_addLists hl hl' (by rw [sizeLine_eq]; (first | lia | omega)) fun r h' ob sb n g lt => ⟨F₂, r, ob, fun a o e => le₂ a o (le₁ a o e), H₂.sub sb, rfl, g, H₂.fresh n, .list lt (rs.append rs')⟩))
theorem E.subL (ok : FmOk X) {value idx : PySem.Expr} {pos : Pos} {p x : PV} {xs : List PV} {i : Int} (ev : E X Γ value p) (ei : E X Γ idx (.int i)) (il : IsL p xs) (h0 : 0 ≤ i) (hz : i < 2 ^ 62) (hx : xs[i.toNat]? = some x) (hsub : ∀ o i, subscripted idx false o i = operate [o, i] (getItem o i) := by intro _ _; rfl) : E X Γ (.Subscript value idx pos) x := fun F m l h H =>
  p_SubListG ((ev F m l h H).mono fun u h₁ ⟨F₁, le₁, H₁, r₁⟩ => (ei F₁ m l h₁ H₁).mono fun v h₂ ⟨F₂, le₂, H₂, r₂⟩ => by
    obtain ⟨a, us, rfl, hl, rs⟩ := H₂.lst ok il (r₁.mono le₂ fun _ _ e => e)
    · obtain ⟨t, rfl⟩ := r₂.i
      obtain ⟨w, hw, rw⟩ := rs.get hx
      exact ⟨a, us, i, t, w, rfl, rfl, hl, h0, by (first | lia | omega), hw, F₂, fun a o e => le₂ a o (le₁ a o e), H₂, rw⟩) hsub
theorem E.divII {a b : PySem.Expr} {pos : Pos} {i j : Int} (ea : E X Γ a (.int i)) (eb : E X Γ b (.int j)) (hi : i.natAbs < 2 ^ 1023) (hj : j ≠ 0) : E X Γ (.BinOp a .Div b pos) (.flt (Float64.ofFrac (decide (i < 0) != decide (j < 0)) i.natAbs j.natAbs)) := E.bin ea eb fun F m l h u v H ru rv => by
  obtain ⟨t₁, rfl⟩ := ru.i
  obtain ⟨t₂, rfl⟩ := rv.i
  exact fun s es hp => by
    subst es
    exact AutoIntOps.truediv_2 (by simpa using hj) (PySem.Flt.quot_fits (by (first | lia | omega)) hi) ⟨_, _, rfl, Nat.succ_pos _, F, fun _ _ e => e, H, .flt _ _ (Nat.pos_iff_ne_zero.mp hp)⟩
theorem Cmp.eqF {x y : UInt64} : Cmp X .Eq (.flt x) (.flt y) (Float64.cmp x y == some .eq) := fun Γ F m l h u v H ru rv => by
  obtain ⟨t₁, rfl, n₁⟩ := ru.f; obtain ⟨t₂, rfl, n₂⟩ := rv.f; exact TP.of fun s es => by
    subst es
    exact AutoFloatOps.eq_0 ⟨_, s.toks, rfl, F, fun _ _ e => e, H, .bool _⟩
theorem Cmp.geF {x y : UInt64} : Cmp X .GtE (.flt x) (.flt y) (Float64.cmp x y == some .gt || Float64.cmp x y == some .eq) := fun Γ F m l h u v H ru rv => by
  obtain ⟨t₁, rfl, n₁⟩ := ru.f; obtain ⟨t₂, rfl, n₂⟩ := rv.f; exact TP.of fun s es => by
    subst es
    exact AutoFloatOps.ge_0 ⟨_, s.toks, rfl, F, fun _ _ e => e, H, .bool _⟩
theorem E.mulII {a b : PySem.Expr} {pos : Pos} {i j : Int} (ea : E X Γ a (.int i)) (eb : E X Γ b (.int j)) (hm : IntMulOk i j) : E X Γ (.BinOp a .Mult b pos) (.int (i * j)) := E.bin ea eb fun F m l h u v H ru rv => by
  obtain ⟨t₁, rfl⟩ := ru.i; obtain ⟨t₂, rfl⟩ := rv.i; exact TP.of fun s es => by
    subst es
    exact PyProof.Rows.mul_int ⟨_, _, rfl, F, fun _ _ e => e, H, .int _ _⟩ hm
noncomputable def PureFn (prog : Program) (w : World) (K : Frag) (rd : Nat) (f : Addr) (ps : List PV) (r : PV) : Prop := ∀ {A : Around} {h : Heap} {F : Store} {vs : List Value}, A.handled = none → A.depth + 21 + rd < recursionLimit → A.units + 30 + 10 * rd < cLine → Gr K h → (∀ a o, F a o → h.get? a = some o) →
  Args prog w F [] vs (ps.map .fz) → TCP prog w A (.call (.ref f) ⟨vs, []⟩) h (Ret prog w F h [] fun p _ => p = r)
theorem Reps.args {vs : List Value} {ps : List PV} {R : Store} {lD : List (Addr × Obj)} (r : Reps X.prog X.w F R vs ps) (s : Safes ps) : Args X.prog X.w F lD vs (ps.map .fz) := by
  induction vs generalizing ps with
  | nil => cases r; exact .nil
  | cons v vs ih =>
    cases ps with
    | nil => cases r
    | cons x xs => exact .fz (r.c.1.safe s.1) (ih r.c.2 s.2)
theorem Holds.after (H : Holds X Γ F m l h) (le : ∀ a o, F a o → F' a o) (h1 : ∀ a o, F' a o → h'.get? a = some o ∧ (F a o ∨ h.get? a = none)) (sb : Sub [] h h') : Holds X Γ F' m l h' :=
  (H.sub sb).grow le (fun a o e => by
    obtain ⟨e1, e2⟩ := h1 a o e
    refine ⟨e1, ?_⟩
    rcases e2 with e2 | e2
    · exact (H.fz a o e2).2
    · exact (H.s.fresh e2).2) fun a o e => by
    rcases (h1 a o e).2 with e2 | e2
    · exact H.fn a o e2
    · exact .inr (H.s.fresh e2).1
theorem E.callF (ok : FmOk X) {f : Str} {pf pos : Pos} {fa : Addr} {rd : Nat} {es : List PySem.Expr} {ps : List PV} {r : PV} (ef : E X Γ (.Name f pf) (.raw (.ref fa))) (ea : EA X Γ es ps) (hs : Safes ps) (hk : keepIn X.K (.ref fa) = true) (hrd : rd + 1 ≤ X.rd) (pfn : PureFn X.prog X.w X.K rd fa ps r) (hst : noStars es = true) : E X Γ (.Call (.Name f pf) es [] pos) r :=
  E.callB ef ea (fun F m l h vs H rs => ⟨Keeps.frag (H.gr ok).k hk, by
    have r1 := ok.room
    have r2 := ok.units
    refine TP.call ((pfn ok.hh (by (first | lia | omega)) (by (first | lia | omega)) (H.gr ok) (fun a o e => (H.fz a o e).1) (rs.args hs)).mono ?_)
    rintro v h' ⟨⟨p, Γ', F', le, h1, h2, rfl, _⟩, sb⟩
    exact ⟨F', le, H.after le (fun a o e => ⟨(h1 a o e).1, (h1 a o e).2.2⟩) sb, h2.mono (fun _ _ e => e) fun _ _ e => e.elim⟩⟩) hst
end
end Mine

end
section
open PySem PySem.W PyProof.Rows PySem.Calls
set_option Elab.async false
set_option linter.unusedVariables false
set_option maxRecDepth 100000
set_option maxHeartbeats 4000000
namespace Mine
section
variable {prog : Program} {w : World} {A : Around} {h h' h₀ : Heap} {env : Env} {D : List Addr} {m : Str → Option Value} {l l₀ : List (Addr × Obj)} {K : Frag}
theorem hole (h : Heap) (d : Addr) : ∃ hb : Heap, hb.get? d = none ∧ Sub [] hb h ∧ Sub [d] h hb := by
  refine ⟨h.update d fun o => { o with data := .freed }, ?_, ?_, ?_⟩
  · cases e : (h.update d fun o => { o with data := .freed }).get? d with
    | none => rfl
    | some o =>
      exfalso
      unfold Heap.get? Heap.update at e
      simp only [Array.getElem?_modify] at e
      simp only [if_true] at e
      cases q : h.objs[d]? with
      | none => rw [q] at e; simp at e
      | some o => rw [q] at e; simp at e
  · intro b o _ e
    by_cases hb : b = d
    · subst hb
      exfalso
      unfold Heap.get? Heap.update at e
      simp only [Array.getElem?_modify] at e
      simp only [if_true] at e
      cases q : h.objs[b]? with
      | none => rw [q] at e; simp at e
      | some o => rw [q] at e; simp at e
    · rw [← (Heap.SameBut.update h d _).2 b hb]; exact e
  · intro b o nb e
    rw [(Heap.SameBut.update h d _).2 b (by simpa using nb)]; exact e
theorem t_is_self {x : Addr} {Q : Value → Heap → Prop} (q : Q (.bool true) h) : T prog w A (compareOp .Is (.ref x) (.ref x)) h Q := fun s es => by
  subst es
  exact wpAny_is_ref_self ⟨s.heap, s.toks, rfl, q⟩
theorem set_seq1_same {x dx : Addr} {ax : Addr} {od : Obj} {am : Str → Option Value} {hb : Heap} {Q : Value → Heap → Prop} (G : Gr (frag w.params) hb) (B : Sub [] hb h) (hn : hb.get? dx = none) (hroom : A.depth < recursionLimit)
    (ho : h.get? x = some (instObj aSM dx)) (hdx : h.get? dx = some od) (ia : IsAttrs attrN od am) (ha : am (Str.ofString "a") = some (.ref ax))
    (q : ∀ h', Sub [dx] h h' → h'.get? dx = some od → Q .none h') : TC prog w A (.call (.ref at_SequenceMatcher_set_seq1) ⟨[.ref x, .ref ax], []⟩) h Q := by
  refine TC.def (binds := [((Str.ofString "self"), .ref x), ((Str.ofString "a"), .ref ax)]) [(dx, od)] (fn_set_seq1 w.params) (G.sub B) hroom (by kernel_rfl!) (by kernel_rfl!) (by simpa using hdx) (by first | walk_at "mem" | simp) fun h₁ L H => ?_
  have e := (fn_set_seq1 w.params).ok L
  have k1 : (callEnv fdOf_SequenceMatcher_set_seq1 L at_SequenceMatcher_set_seq1).kindOf (Str.ofString "self") = some .local := by kernel_rfl!
  have k2 : (callEnv fdOf_SequenceMatcher_set_seq1 L at_SequenceMatcher_set_seq1).kindOf (Str.ofString "a") = some .local := by kernel_rfl!
  replace H : S h [dx] L (upd (upd (fun _ => none) (Str.ofString "self") (.ref x)) (Str.ofString "a") (.ref ax)) [(dx, od)] h₁ := H
  generalize henv : callEnv fdOf_SequenceMatcher_set_seq1 L at_SequenceMatcher_set_seq1 = env at *
  have hL : L = env.locals := by rw [← henv]; rfl
  subst hL
  clear henv
  generalize A.deeper env = A' at *
  have hxd := inst_ne ho hdx ia
  have GG : ∀ {m l h₂}, S h [dx] env.locals m l h₂ → Gr (frag w.params) h₂ := fun H => gr_in G B hn H
  have Hx : ∀ {m l h₂}, S h [dx] env.locals m l h₂ → h₂.get? x = some (instObj aSM dx) := fun H => H.old ho (by simpa using hxd)
  refine T.execs_cons (T.Expr (T.cStr fun t => ⟨(fun b q => by cases q), ?_⟩) e.inter)
  refine T.execs_cons (T.If (T.isTrue_Compare ?_))
  walk_at "nm"
  refine T.Attribute ?_
  walk_at "nm"
  refine T.getAttr (plainSM w.params) (GG H).k ⟨Hx H, H.get (by first | walk_at "mem" | simp)⟩ ia ha (attrFind _ (by delta attrN; walk_at "mem")) rfl ?_
  refine t_is_self (T.truthy_bool ?_)
  rw [if_pos rfl]
  exact T.execs_cons (T.Return0 (q h₁ H.base (H.get (by first | walk_at "mem" | simp))))
theorem set_seq2_same {x dx : Addr} {ax : Addr} {od : Obj} {am : Str → Option Value} {hb : Heap} {Q : Value → Heap → Prop} (G : Gr (frag w.params) hb) (B : Sub [] hb h) (hn : hb.get? dx = none) (hroom : A.depth < recursionLimit)
    (ho : h.get? x = some (instObj aSM dx)) (hdx : h.get? dx = some od) (ia : IsAttrs attrN od am) (ha : am (Str.ofString "b") = some (.ref ax))
    (q : ∀ h', Sub [dx] h h' → h'.get? dx = some od → Q .none h') : TC prog w A (.call (.ref at_SequenceMatcher_set_seq2) ⟨[.ref x, .ref ax], []⟩) h Q := by
  refine TC.def (binds := [((Str.ofString "self"), .ref x), ((Str.ofString "b"), .ref ax)]) [(dx, od)] (fn_set_seq2 w.params) (G.sub B) hroom (by kernel_rfl!) (by kernel_rfl!) (by simpa using hdx) (by first | walk_at "mem" | simp) fun h₁ L H => ?_
  have e := (fn_set_seq2 w.params).ok L
  have k1 : (callEnv fdOf_SequenceMatcher_set_seq2 L at_SequenceMatcher_set_seq2).kindOf (Str.ofString "self") = some .local := by kernel_rfl!
  have k2 : (callEnv fdOf_SequenceMatcher_set_seq2 L at_SequenceMatcher_set_seq2).kindOf (Str.ofString "b") = some .local := by kernel_rfl!
  replace H : S h [dx] L (upd (upd (fun _ => none) (Str.ofString "self") (.ref x)) (Str.ofString "b") (.ref ax)) [(dx, od)] h₁ := H
  generalize henv : callEnv fdOf_SequenceMatcher_set_seq2 L at_SequenceMatcher_set_seq2 = env at *
  have hL : L = env.locals := by rw [← henv]; rfl
  subst hL
  clear henv
  generalize A.deeper env = A' at *
  have hxd := inst_ne ho hdx ia
  have GG : ∀ {m l h₂}, S h [dx] env.locals m l h₂ → Gr (frag w.params) h₂ := fun H => gr_in G B hn H
  have Hx : ∀ {m l h₂}, S h [dx] env.locals m l h₂ → h₂.get? x = some (instObj aSM dx) := fun H => H.old ho (by simpa using hxd)
  refine T.execs_cons (T.Expr (T.cStr fun t => ⟨(fun b q => by cases q), ?_⟩) e.inter)
  refine T.execs_cons (T.If (T.isTrue_Compare ?_))
  walk_at "nm"
  refine T.Attribute ?_
  walk_at "nm"
  refine T.getAttr (plainSM w.params) (GG H).k ⟨Hx H, H.get (by first | walk_at "mem" | simp)⟩ ia ha (attrFind _ (by delta attrN; walk_at "mem")) rfl ?_
  refine t_is_self (T.truthy_bool ?_)
  rw [if_pos rfl]
  exact T.execs_cons (T.Return0 (q h₁ H.base (H.get (by first | walk_at "mem" | simp))))
inductive Seq
  | txt
  | lst (ns : List Int)
inductive SeqV (F : Store) : Value → Seq → Prop
  | txt (t : Tok) : SeqV F (.str (Str.ofString "") t) .txt
  | lst {a : Addr} {o : Obj} {vs : List Value} {ns : List Int} : F a o → IsLst o vs → IntsAre vs ns → ns.length < 200 → SeqV F (.ref a) (.lst ns)
theorem SeqV.mono {F F' : Store} {v : Value} {s : Seq} (x : SeqV F v s) (le : ∀ a o, F a o → ¬ NoVal o → F' a o) : SeqV F' v s := by
  cases x with
  | txt t => exact .txt t
  | lst h1 h2 h3 h4 => exact .lst (le _ _ h1 fun z => z.ne h2.cls.1 (by decide +kernel)) h2 h3 h4
structure AmB (am : Str → Option Value) : Prop where
  j : am (Str.ofString "isjunk") = some .none
  aj : am (Str.ofString "autojunk") = some (.bool true)
  m1 : am (Str.ofString "set_seq1") = none
  m2 : am (Str.ofString "set_seq2") = none
  m3 : am (Str.ofString "_SequenceMatcher__chain_b") = none
  m4 : am (Str.ofString "quick_ratio") = none
theorem AmB.upd {am : Str → Option Value} {y : Str} {v : Value} (x : AmB am) (hy : y ∈ [(Str.ofString "a"), (Str.ofString "b"), (Str.ofString "matching_blocks"), (Str.ofString "opcodes"), (Str.ofString "fullbcount"), (Str.ofString "b2j"), (Str.ofString "bjunk"), (Str.ofString "bpopular")]) : AmB (upd am y v) := by
  have ne : ∀ {z : Str}, z ∉ [(Str.ofString "a"), (Str.ofString "b"), (Str.ofString "matching_blocks"), (Str.ofString "opcodes"), (Str.ofString "fullbcount"), (Str.ofString "b2j"), (Str.ofString "bjunk"), (Str.ofString "bpopular")] → z ≠ y := fun hz q => hz (q ▸ hy)
  exact ⟨upd_next (ne (by decide +kernel)) x.j, upd_next (ne (by decide +kernel)) x.aj, (if_neg (ne (by decide +kernel))).trans x.m1, (if_neg (ne (by decide +kernel))).trans x.m2, (if_neg (ne (by decide +kernel))).trans x.m3, (if_neg (ne (by decide +kernel))).trans x.m4⟩
theorem AmB.am2 {am : Str → Option Value} {v : Value} {d dj dp : Addr} (x : AmB am) : AmB (am2 am v d dj dp) :=
  ((((((x.upd (by first | walk_at "mem" | simp)).upd (by first | walk_at "mem" | simp)).upd (by first | walk_at "mem" | simp)).upd (by first | walk_at "mem" | simp)).upd (by first | walk_at "mem" | simp)).upd (by first | walk_at "mem" | simp)).upd (by first | walk_at "mem" | simp)
structure MatP (prog : Program) (w : World) (a b : Seq) (F : Store) (od : Obj) : Prop where
  x : ∃ am va vb, IsAttrs attrN od am ∧ AmB am ∧ am (Str.ofString "a") = some va ∧ SeqV F va a ∧ am (Str.ofString "b") = some vb ∧ SeqV F vb b ∧
    (am (Str.ofString "fullbcount") = some .none ∨ ∃ d o kvs ms, b = .lst ms ∧ am (Str.ofString "fullbcount") = some (.ref d) ∧ F d o ∧ IsDic prog w o kvs ∧ Cnt kvs ms ∧ (d == sysModules) = false)
theorem MatP.mono {F F' : Store} {a b : Seq} {od : Obj} (x : MatP prog w a b F od) (le : ∀ a o, F a o → ¬ NoVal o → F' a o) : MatP prog w a b F' od := by
  obtain ⟨am, va, vb, h1, h2, h3, h4, h5, h6, h7⟩ := x.x
  exact ⟨am, va, vb, h1, h2, h3, h4.mono le, h5, h6.mono le, h7.imp id fun ⟨d, o, kvs, ms, a1, a2, a3, a4, a5, a6⟩ => ⟨d, o, kvs, ms, a1, a2, le _ _ a3 fun z => z.ne a4.cls.1 (by decide +kernel), a4, a5, a6⟩⟩
theorem ints_same {vs : List Value} {ns ms : List Int} (a : IntsAre vs ns) (b : IntsAre vs ms) : ns = ms := by
  induction a generalizing ms with
  | nil => cases b; rfl
  | cons n t _ ih => cases b with | cons _ _ r => rw [ih r]
end
section
variable {X : Fm} {Γ Γ' Γc : Ctx} {F F' : Store} {m : Str → Option Value} {l : List (Addr × Obj)} {h h' : Heap} {Q : Out → Prop} {rest : List Stmt} {s : Scope} {cn : List Str}
theorem Holds.grOff (ok : FmOk X) (H : Holds X Γ F m l h) {d : Addr} {od : Obj} (hd : (d, od) ∈ l) {h₂ : Heap} (sb : Sub [d] h h₂) : Gr X.K h₂ := ok.gr h₂ fun b o nb eb => sb b o (fun z => by
  obtain rfl : b = d := by simpa using z
  rcases H.s.own _ hd with q | q
  · exact nb q
  · rw [q] at eb; cases eb) (H.s.base b o nb eb)
theorem Holds.one (H : Holds X Γ F m l h) {a : Addr} {o o' : Obj} (h1 : F a o) (h2 : F a o') : o = o' := by
  have := (H.fz a o h1).1
  rw [(H.fz a o' h2).1] at this
  exact (Option.some.inj this).symm
theorem dict_nc {es : List DictEntry} {n : Nat} : ∀ u, (dictOf es n).data ≠ .cell u := fun u q => by cases q
noncomputable def EM (X : Fm) (Γ : Ctx) (e : PySem.Expr) (p : PV) (Γ' : Ctx) : Prop := ∀ F m l h, Holds X Γ F m l h → TP X.prog X.w X.A (eval e X.env) h fun v h' => ∃ F' m' l', (∀ a o, F a o → F' a o) ∧ Holds X Γ' F' m' l' h' ∧ Rep X.prog X.w F' X.XR v p
theorem EM.mat (ok : FmOk X) {pl : Sem Bool} {M : Str} {pm pa pc : Pos} {es : List PySem.Expr} {ps : List PV} {p : PV} {name : Str} {fa : Addr} {d : Addr} {P P' : Store → Obj → Prop} (hx : Γ.lookup M = some (.mat d aSM P)) (hK : X.K = frag X.w.params) (ea : EA X Γ es ps) (hst : noStars es = true) (hdb : (M == ("__debug__" : Str)) = false)
    (he : ∀ Q' h, (TP X.prog X.w X.A (eval (.Name M pm) X.env) h fun ov h₁ => TP X.prog X.w X.A (getMethod ov name pl) h₁ fun fx h₂ => TP X.prog X.w X.A (PySem.callWith pc fx.1 fx.2 (backTo pc (starEach es X.env)) []) h₂ Q') → TP X.prog X.w X.A (eval (.Call (.Attribute (.Name M pm) name pa) es [] pc) X.env) h Q')
    (hP : ∀ F od, P F od → ∃ am, IsAttrs attrN od am ∧ am name = none) (hf : findIn (frag X.w.params) (.ref aSM) name = some (some (.ref fa))) (ht : typeIn (frag X.w.params) (.ref fa) = some (.type "function")) (hkp : keepIn (frag X.w.params) (.ref fa) = true)
    (k : ∀ F m l h x od vs, Holds X Γ F m l h → (d, od) ∈ l → P F od → h.get? x = some (instObj aSM d) → Reps X.prog X.w F (RS X l) vs ps → TCP X.prog X.w X.A (.call (.ref fa) ⟨.ref x :: vs, []⟩) h fun v h' => Sub [d] h h' ∧ ∃ (od' : Obj) (F' : Store), (∀ a o, F a o → F' a o) ∧ (∀ a o, F' a o → F a o ∨ (h'.get? a = some o ∧ h.get? a = none)) ∧ h'.get? d = some od' ∧ (∃ es n, od' = dictOf es n) ∧ (∀ F2, (∀ a o, F' a o → ¬ NoVal o → F2 a o) → P' F2 od') ∧ Rep X.prog X.w F' X.XR v p) :
    EM X Γ (.Call (.Attribute (.Name M pm) name pa) es [] pc) p ((M, .mat d aSM P') :: Γ) := fun F m l h H => by
  refine he _ _ ?_
  obtain ⟨v, lk, x, od, rfl, fx, hd, ⟨es', n, rfl⟩, hp⟩ := H.nm M _ hx
  refine look_eval ok H lk hdb ?_
  obtain ⟨am, ia, hn⟩ := hP F _ (hp F fun _ _ e _ => e)
  have Gk : (frag X.w.params).In h := hK ▸ (H.gr ok).k
  refine TP.of (T.getMeth (f := fa) (plainSM X.w.params) Gk ⟨(H.fz _ _ fx).1, H.s.led _ hd⟩ ia hn hf ht ?_)
  refine TP.callWith ((ea.t H).mono fun vs h₁ ⟨F₁, le₁, H₁, r₁⟩ => ⟨Keeps.frag (hK ▸ (H₁.gr ok).k) hkp, ?_⟩) hst
  refine TP.call ((k F₁ m l h₁ x _ vs H₁ hd (hp F₁ fun a o e _ => le₁ a o e) (H₁.fz _ _ (le₁ _ _ fx)).1 r₁).mono ?_)
  rintro v h₂ ⟨sb, od', F₂, le₂, new₂, gd, ⟨es2, n2, rfl⟩, hp', rp⟩
  obtain ⟨l', el, H₂⟩ := H₁.turnC (b' := .mat d aSM fun _ _ => True) ok hx (.head _) (fun _ q => q) lk hd dict_nc dict_nc sb gd fun l' hl' _ => ⟨x, _, rfl, le₁ _ _ fx, hl', ⟨es2, n2, rfl⟩, fun _ _ => trivial⟩
  have H₃ : Holds X ((M, .mat d aSM fun _ _ => True) :: Γ) F₂ m l' h₂ := H₂.grow le₂ (fun a o e => by
    rcases new₂ a o e with e | ⟨e1, e2⟩
    · exact H₂.fz a o e
    · have f := H₁.s.fresh e2
      exact ⟨e1, f.2.1, el ▸ f.2.2⟩) fun a o e => by
    rcases new₂ a o e with e | ⟨e1, e2⟩
    · exact H₂.fn a o e
    · exact .inr (H₁.s.fresh e2).1
  have H₄ : Holds X ((M, .mat d aSM P') :: (M, .mat d aSM fun _ _ => True) :: Γ) F₂ m l' h₂ := H₃.rebind (b' := .mat d aSM P') look_here (fun _ q => q) fun v ⟨x', od2, e1, e2, e3, e4, e5⟩ => by
    have := H₃.s.led _ e3
    rw [gd] at this
    obtain rfl := Option.some.inj this
    exact ⟨x', _, e1, e2, e3, e4, fun F2 q => hp' F2 q⟩
  refine ⟨F₂, m, l', fun a o e => le₂ a o (le₁ a o e), H₄.weak fun y c e => ?_, rp⟩
  by_cases hy : y = M
  · subst hy; rw [look_here] at e ⊢; exact e
  · rw [look_next hy rfl] at e ⊢
    rw [look_next hy rfl]; exact e
theorem Ex.exprM (ok : FmOk X) {e : PySem.Expr} {pos : Pos} (em : EM X Γ e .none Γ') (r : Ex X Γ' rest Q) (hs : swapsWith e none pos.line X.env = Pure.pure false := by rfl) : Ex X Γ (.Expr e pos :: rest) Q := .cons fun F m l h H =>
  TP.Expr ((em F m l h H).mono fun v h₁ ⟨F₁, m₁, l₁, le₁, H₁, r₁⟩ => by
    obtain rfl := r₁.n
    exact ⟨(fun a q => by cases q), Γ', F₁, m₁, l₁, le₁, H₁, r⟩) ok.e.inter hs
theorem Ex.assignM (ok : FmOk X) {x : Str} {px pos : Pos} {e : PySem.Expr} {p : PV} (em : EM X Γ e p Γ') (hx : Sto X x) (r : Ex X ((x, .fz p) :: Γ') rest Q) (hs : swapsWith e (some (.Name x px)) pos.line X.env = Pure.pure false := by rfl) : Ex X Γ (.Assign [.Name x px] e pos :: rest) Q := .cons fun F m l h H =>
  TP.Assign_Name ((em F m l h H).mono fun v h₁ ⟨F₁, m₁, l₁, le₁, H₁, r₁⟩ => (H₁.putF ok hx r₁).mono fun _ h₂ ⟨m', l', H₂⟩ => ⟨_, F₁, m', l', le₁, H₂, r⟩) hs
theorem MatP.ofAttrs {prog : Program} {w : World} {a b : Seq} {F : Store} {od : Obj} (x : MatP prog w a b F od) : ∃ am, IsAttrs attrN od am ∧ AmB am := let ⟨am, _, _, h1, h2, _⟩ := x.x; ⟨am, h1, h2⟩
theorem attrs_dict {N : List Str} {od : Obj} {am : Str → Option Value} (ia : IsAttrs N od am) : ∃ es n, od = dictOf es n := let ⟨es, n, e, _⟩ := ia; ⟨es, n, e⟩
theorem Rep.ints {prog : Program} {w : World} {F R : Store} {v : Value} {ns : List Int} (r : Rep prog w F R v (.list (ns.map .int))) : ∃ a o vs, v = .ref a ∧ F a o ∧ IsLst o vs ∧ IntsAre vs ns := by
  obtain ⟨_, _, _, rfl, h1, h2, h3⟩ := r.l
  exact ⟨_, _, _, rfl, h1, h2, h3.toInts⟩
theorem EM.set1 (ok : FmOk X) {pl : Sem Bool} {M : Str} {pm pa pc : Pos} {e : PySem.Expr} {d : Addr} {a b : Seq} {ns : List Int} (hx : Γ.lookup M = some (.mat d aSM (MatP X.prog X.w a b))) (hK : X.K = frag X.w.params) (ee : E X Γ e (.list (ns.map .int))) (hst : noStars [e] = true) (hdb : (M == ("__debug__" : Str)) = false) (hn : ns.length < 200)
    (he : ∀ Q' h, (TP X.prog X.w X.A (eval (.Name M pm) X.env) h fun ov h₁ => TP X.prog X.w X.A (getMethod ov (Str.ofString "set_seq1") pl) h₁ fun fx h₂ => TP X.prog X.w X.A (PySem.callWith pc fx.1 fx.2 (backTo pc (starEach [e] X.env)) []) h₂ Q') → TP X.prog X.w X.A (eval (.Call (.Attribute (.Name M pm) (Str.ofString "set_seq1") pa) [e] [] pc) X.env) h Q') :
    EM X Γ (.Call (.Attribute (.Name M pm) (Str.ofString "set_seq1") pa) [e] [] pc) .none ((M, .mat d aSM (MatP X.prog X.w (.lst ns) b)) :: Γ) := by
  refine EM.mat ok hx hK (.cons ee .nil) hst hdb he (fun F od hp => let ⟨am, h1, h2⟩ := hp.ofAttrs; ⟨am, h1, h2.m1⟩) (fa := at_SequenceMatcher_set_seq1) (by kernel_rfl!) (by kernel_rfl!) (by kernel_rfl!) ?_
  intro F m l h x od vs H hd hp gx rs
  · obtain ⟨_, rfl, r1⟩ := rs.one
    obtain ⟨ax, oa, us, rfl, fa, la, ia⟩ := r1.ints
    have ga := (H.fz _ _ fa).1
    have gd := H.s.led _ hd
    have r3 := ok.room
    obtain ⟨hb, hb1, hb2, hb3⟩ := hole h d
    have G : Gr (frag X.w.params) hb := hK ▸ H.grOff ok hd hb3
    obtain ⟨am, va, vb, q1, q2, q3, q4, q5, q6, q7⟩ := hp.x
    have sq : SeqV F (.ref ax) (.lst ns) := .lst fa la ia hn
    refine TCP.of ?_
    by_cases same : va = .ref ax
    · subst same
      refine set_seq1_same G hb2 hb1 (by (first | lia | omega)) gx gd q1 q3 fun h' sb gd' => ⟨sb, od, F, fun _ _ e => e, fun _ _ e => .inl e, gd', attrs_dict q1, fun F2 le => ⟨am, _, vb, q1, q2, q3, ?_, q5, q6.mono le, ?_⟩, .none⟩
      · exact sq.mono le
      · exact q7.imp id fun ⟨d, o, kvs, ms, a1, a2, a3, a4, a5, a6⟩ => ⟨d, o, kvs, ms, a1, a2, le _ _ a3 fun z => z.ne a4.cls.1 (by decide +kernel), a4, a5, a6⟩
    · have dif : Differs h (.ref ax) va := by
        cases q4 with
        | txt t => exact .inl ⟨rfl, by simp⟩
        | lst k1 k2 k3 k4 => exact .inr ⟨ax, _, _, _, rfl, rfl, fun z => same (by rw [z]), ga, (H.fz _ _ k1).1, by rw [la.cls.1]; simp⟩
      have ndx : ∀ {y oy}, F y oy → y ≠ d := fun e z => (H.fz _ _ e).2.2 (z ▸ List.mem_map_of_mem (f := (·.1)) hd)
      refine set_seq1 G hb2 hb1 (by (first | lia | omega)) gx gd q1 q3 (by cases q4 <;> rfl) dif (fun z => ndx fa (by cases z; rfl)) (fun z => by cases q4 with
        | txt t => cases z
        | lst k1 k2 k3 k4 => exact ndx k1 (by cases z; rfl)) fun h' od' sb gd' ia' => ⟨sb, od', F, fun _ _ e => e, fun _ _ e => .inl e, gd', attrs_dict ia', fun F2 le => ⟨_, _, vb, ia', ((q2.upd (by first | walk_at "mem" | simp)).upd (by first | walk_at "mem" | simp)).upd (by first | walk_at "mem" | simp), by walk_at "look", sq.mono le, by walk_at "look", q6.mono le, ?_⟩, .none⟩
      rcases q7 with q7 | ⟨d, o, kvs, ms, a1, a2, a3, a4, a5, a6⟩
      · exact .inl (by walk_at "look")
      · exact .inr ⟨d, o, kvs, ms, a1, by walk_at "look", le _ _ a3 fun z => z.ne a4.cls.1 (by decide +kernel), a4, a5, a6⟩
theorem EM.set2 (ok : FmOk X) {pl : Sem Bool} {M : Str} {pm pa pc : Pos} {e : PySem.Expr} {d : Addr} {a b : Seq} {ns : List Int} (hx : Γ.lookup M = some (.mat d aSM (MatP X.prog X.w a b))) (hK : X.K = frag X.w.params) (ee : E X Γ e (.list (ns.map .int))) (hst : noStars [e] = true) (hdb : (M == ("__debug__" : Str)) = false) (hn : ns.length < 200)
    (he : ∀ Q' h, (TP X.prog X.w X.A (eval (.Name M pm) X.env) h fun ov h₁ => TP X.prog X.w X.A (getMethod ov (Str.ofString "set_seq2") pl) h₁ fun fx h₂ => TP X.prog X.w X.A (PySem.callWith pc fx.1 fx.2 (backTo pc (starEach [e] X.env)) []) h₂ Q') → TP X.prog X.w X.A (eval (.Call (.Attribute (.Name M pm) (Str.ofString "set_seq2") pa) [e] [] pc) X.env) h Q') :
    EM X Γ (.Call (.Attribute (.Name M pm) (Str.ofString "set_seq2") pa) [e] [] pc) .none ((M, .mat d aSM (MatP X.prog X.w a (.lst ns))) :: Γ) := by
  refine EM.mat ok hx hK (.cons ee .nil) hst hdb he (fun F od hp => let ⟨am, h1, h2⟩ := hp.ofAttrs; ⟨am, h1, h2.m2⟩) (fa := at_SequenceMatcher_set_seq2) (by kernel_rfl!) (by kernel_rfl!) (by kernel_rfl!) ?_
  intro F m l h x od vs H hd hp gx rs
  · obtain ⟨_, rfl, r1⟩ := rs.one
    obtain ⟨ax, oa, us, rfl, fa, la, ia⟩ := r1.ints
    have ga := (H.fz _ _ fa).1
    have gd := H.s.led _ hd
    have r3 := ok.room
    obtain ⟨hb, hb1, hb2, hb3⟩ := hole h d
    have G : Gr (frag X.w.params) hb := hK ▸ H.grOff ok hd hb3
    obtain ⟨am, va, vb, q1, q2, q3, q4, q5, q6, q7⟩ := hp.x
    have sq : SeqV F (.ref ax) (.lst ns) := .lst fa la ia hn
    refine TCP.of ?_
    by_cases same : vb = .ref ax
    · subst same
      refine set_seq2_same G hb2 hb1 (by (first | lia | omega)) gx gd q1 q5 fun h' sb gd' => ⟨sb, od, F, fun _ _ e => e, fun _ _ e => .inl e, gd', attrs_dict q1, fun F2 le => ⟨am, va, _, q1, q2, q3, q4.mono le, q5, sq.mono le, ?_⟩, .none⟩
      refine q7.imp id fun ⟨d, o, kvs, ms, a1, a2, a3, a4, a5, a6⟩ => ⟨d, o, kvs, ns, rfl, a2, le _ _ a3 fun z => z.ne a4.cls.1 (by decide +kernel), a4, ?_, a6⟩
      subst a1
      cases q6 with
      | lst k1 k2 k3 k4 =>
        obtain rfl := H.one k1 fa
        obtain ⟨n1, e1⟩ := k2
        obtain ⟨n2, e2⟩ := la
        rw [e1] at e2
        have := congrArg Obj.data e2
        simp only [Data.seq.injEq, List.toArray_eq_iff] at this
        obtain ⟨e3, _⟩ := this
        subst e3
        rw [← ints_same k3 ia]; exact a5
    · have dif : Differs h (.ref ax) vb := by
        cases q6 with
        | txt t => exact .inl ⟨rfl, by simp⟩
        | lst k1 k2 k3 k4 => exact .inr ⟨ax, _, _, _, rfl, rfl, fun z => same (by rw [z]), ga, (H.fz _ _ k1).1, by rw [la.cls.1]; simp⟩
      have ndx : ∀ {y oy}, F y oy → y ≠ d := fun e z => (H.fz _ _ e).2.2 (z ▸ List.mem_map_of_mem (f := (·.1)) hd)
      refine set_seq2 (hsm := fun _ => hn) G hb2 hb1 ok.hh (by (first | lia | omega)) gx gd q1 q5 (by cases q6 <;> rfl) dif (fun z => by cases q6 with
        | txt t => cases z
        | lst k1 k2 k3 k4 => exact ndx k1 (by cases z; rfl)) q2.j q2.aj q2.m3 (la.isList ga) ia (by (first | lia | omega)) fun h' od' d' dj dp led sb gd' ia' b' gj => ⟨sb, od', F, fun _ _ e => e, fun _ _ e => .inl e, gd', attrs_dict ia', fun F2 le => ⟨_, va, _, ia', q2.am2, by unfold am2; walk_at "look", q4.mono le, by unfold am2; walk_at "look", sq.mono le, .inl (by unfold am2; walk_at "look")⟩, .none⟩
theorem EM.quick (ok : FmOk X) {pl : Sem Bool} {M : Str} {pm pa pc : Pos} {d : Addr} {ns ms : List Int} (hx : Γ.lookup M = some (.mat d aSM (MatP X.prog X.w (.lst ns) (.lst ms)))) (hK : X.K = frag X.w.params) (hdb : (M == ("__debug__" : Str)) = false)
    (he : ∀ Q' h, (TP X.prog X.w X.A (eval (.Name M pm) X.env) h fun ov h₁ => TP X.prog X.w X.A (getMethod ov (Str.ofString "quick_ratio") pl) h₁ fun fx h₂ => TP X.prog X.w X.A (PySem.callWith pc fx.1 fx.2 (backTo pc (starEach [] X.env)) []) h₂ Q') → TP X.prog X.w X.A (eval (.Call (.Attribute (.Name M pm) (Str.ofString "quick_ratio") pa) [] [] pc) X.env) h Q') :
    EM X Γ (.Call (.Attribute (.Name M pm) (Str.ofString "quick_ratio") pa) [] [] pc) (.flt (ratioF (qm ms [] ns) (ns.length + ms.length))) ((M, .mat d aSM (MatP X.prog X.w (.lst ns) (.lst ms))) :: Γ) := by
  refine EM.mat ok hx hK .nil rfl hdb he (fun F od hp => let ⟨am, h1, h2⟩ := hp.ofAttrs; ⟨am, h1, h2.m4⟩) (fa := at_SequenceMatcher_quick_ratio) (by kernel_rfl!) (by kernel_rfl!) (by kernel_rfl!) ?_
  intro F m l h x od vs H hd hp gx rs
  cases rs
  have gd := H.s.led _ hd
  have r3 := ok.room
  obtain ⟨am, va, vb, q1, q2, q3, q4, q5, q6, q7⟩ := hp.x
  cases q4 with
  | lst k1 k2 k3 k4 =>
    cases q6 with
    | lst j1 j2 j3 j4 =>
      refine quick_ratio (fun h₂ sb => hK ▸ H.grOff ok hd sb) ok.hh (by (first | lia | omega)) gx gd q1 q3 q5 (k2.isList (H.fz _ _ k1).1) (j2.isList (H.fz _ _ j1).1) k3 j3 (by (first | lia | omega)) (by (first | lia | omega)) ?_ fun h' od' am' t nt sb gd' ia' fu => ?_
      · exact q7.imp id fun ⟨d, o, kvs, ms', a1, a2, a3, a4, a5, a6⟩ => by
          cases a1
          exact ⟨d, o, kvs, a2, (H.fz _ _ a3).1, a4, a5, a6⟩
      · rcases fu with rfl | ⟨d', ob, kvb, rfl, nd, gd2, dd, cb, lo⟩
        · exact ⟨sb, od', F, fun _ _ e => e, fun _ _ e => .inl e, gd', attrs_dict ia', fun F2 le => ⟨_, _, _, ia', q2, q3, SeqV.mono (.lst k1 k2 k3 k4) le, q5, SeqV.mono (.lst j1 j2 j3 j4) le, q7.imp id fun ⟨d, o, kvs, ms', a1, a2, a3, a4, a5, a6⟩ => ⟨d, o, kvs, ms', a1, a2, le _ _ a3 fun z => z.ne a4.cls.1 (by decide +kernel), a4, a5, a6⟩⟩, .flt _ t nt⟩
        · refine ⟨sb, od', F.add d' ob, fun _ _ e => .inl e, fun a o e => e.imp id fun ⟨e1, e2⟩ => by subst e1 e2; exact ⟨gd2, nd⟩, gd', attrs_dict ia', fun F2 le => ⟨_, _, _, ia', q2.upd (by first | walk_at "mem" | simp), by walk_at "look", SeqV.mono (.lst k1 k2 k3 k4) fun a o e n => le a o (.inl e) n, by walk_at "look", SeqV.mono (.lst j1 j2 j3 j4) fun a o e n => le a o (.inl e) n, .inr ⟨d', ob, kvb, ms, rfl, upd_here, le _ _ (.inr ⟨rfl, rfl⟩) fun z => z.ne dd.cls.1 (by decide +kernel), dd, cb, lo⟩⟩, .flt _ t nt⟩
end
end Mine

end
section
open PySem PySem.W PyProof.Rows PySem.Calls
set_option Elab.async false
set_option linter.unusedVariables false
set_option maxRecDepth 100000
set_option maxHeartbeats 4000000
namespace Mine
local macro_rules | `(tactic| walk_at "lk") => `(tactic| first | with_reducible exact look_here | (with_reducible refine look_next (by decide +kernel) ?_; walk_at "lk"))
local macro_rules | `(tactic| walk_at "sb") => `(tactic| first | with_reducible exact sub_nil | (with_reducible refine sub_cons (by walk_at "lk") ?_; walk_at "sb"))
local macro_rules | `(tactic| walk_at "ld") => `(tactic| exact Sto.loc (by assumption) (by kernel_rfl!))
local macro_rules | `(tactic| walk_at "en") => `(tactic| first | exact E.name (by assumption) (by walk_at "lk") (by decide +kernel) | exact E.nameO (by assumption) (by walk_at "lk") (by decide +kernel) | exact E.cInt | exact E.cBool)
theorem fn_differ (P : Params) : FnOkC (frag P) at_law_differ fdOf_law_differ (bodyN (stN pwBody 9)) :=
  ⟨⟨obOf_law_differ P, by kernel_rfl!, rfl⟩, by kernel_rfl!, by kernel_rfl!, by kernel_rfl!, by kernel_rfl!, by kernel_rfl!, by kernel_rfl!, by kernel_rfl!, by kernel_rfl!⟩
theorem fn_common (P : Params) : FnOkC (frag P) at_law_common fdOf_law_common (bodyN (stN pwBody 11)) :=
  ⟨⟨obOf_law_common P, by kernel_rfl!, rfl⟩, by kernel_rfl!, by kernel_rfl!, by kernel_rfl!, by kernel_rfl!, by kernel_rfl!, by kernel_rfl!, by kernel_rfl!, by kernel_rfl!⟩
theorem E.subT {X : Fm} {Γ : Ctx} (ok : FmOk X) {value idx : PySem.Expr} {pos : Pos} {x : PV} {xs : List PV} {i : Nat} (ev : E X Γ value (.tup xs)) (ei : E X Γ idx (.int i)) (hz : i < 1000) (hx : xs[i]? = some x) (hsub : ∀ o i, subscripted idx false o i = operate [o, i] (getItem o i) := by intro _ _; rfl) : E X Γ (.Subscript value idx pos) x := fun F m l h H => by
  intro s es hp
  rw [eval_Subscript]
  refine wpAny_bind (wpAny_mono (ev F m l h H s es hp) (fun o s₁ h₁ => ?_) fun _ _ x => x)
  obtain ⟨g₁, t₁, rfl, hp₁, F₁, le₁, H₁, r₁⟩ := h₁
  refine wpAny_bind (wpAny_holding (wpAny_mono (ei F₁ m l g₁ H₁ _ rfl hp₁) (fun i s₂ h₂ => wpAny_bind (wpAny_standAt ?_)) fun _ _ x => x))
  obtain ⟨g₂, t₂, rfl, hp₂, F₂, le₂, H₂, r₂⟩ := h₂
  · obtain ⟨t, rfl⟩ := r₂.i
    cases r₁ with
    | @tup a o vs _ fa la rs =>
      obtain ⟨w', hw, rw'⟩ := rs.get hx
      have ht : g₂.IsTuple a vs.toArray := la.isTuple (H₂.fz _ _ (le₂ _ _ fa)).1
      have hT : (⟨g₂, s.gens, s.drawn, t₂, s.os⟩ : Shared).TypeIs (.ref a) "tuple" := by obtain ⟨o', e1, e2, _⟩ := ht; exact ⟨o', e1, e2⟩
      refine wpAny_bind ?_
      rw [getitemInPython_of_ne hT.not_modules]
      refine wpAny_bind (wpAny_specialOf hT PySem.F.slot_tuple_getitem.lookup ?_)
      have fin : wpAny (model X.prog X.w) X.A (operate [.ref a, .int (i : Nat) t] (getItem (.ref a) (.int (i : Nat) t))) (fun r s₃ => wpAny (model X.prog X.w) X.A (letTemporaryGo value (.ref a) r >>= fun _ => pure r) (fun a s' => ∃ h' tk, s' = { s with heap := h', toks := tk } ∧ 0 < tk ∧ ∃ F', (∀ a o, F a o → F' a o) ∧ Holds X Γ F' m l h' ∧ Rep X.prog X.w F' (RS X l) a x) (fun _ _ => False) s₃) (fun _ _ => False) ⟨g₂, s.gens, s.drawn, t₂, s.os⟩ :=
        wpAny_operating (PyProof.Rows.getItem_tuple (j := i) (la.isTup (H₂.fz _ _ (le₂ _ _ fa)).1) (by (first | lia | omega)) (by (first | lia | omega)) (by
          have hlt : i < vs.length := by
            rcases Nat.lt_or_ge i vs.length with y | y
            · exact y
            · rw [List.getElem?_eq_none y] at hw; cases hw
          unfold seqIndex?
          have e1 : ¬ ((i : Nat) : Int) < 0 := by (first | lia | omega)
          simp only [e1, if_false, List.size_toArray]
          rw [if_pos (by simp only [Bool.and_eq_true, decide_eq_true_eq]; (first | lia | omega))]
          simp) (by simpa using hw) (wpAny_bind (wpAny_letTemporaryGo (wpAny_pure ⟨_, _, rfl, hp₂, F₂, fun a o e => le₂ a o (le₁ a o e), H₂, rw'.mono le₂ fun _ _ e => e⟩))))
      have fin' := wpAny_bind fin
      rw [← hsub] at fin'
      exact wpAny_pure fin'
theorem mulL {a b : Int} (h1 : -100000000 < a) (h2 : a < 100000000) : IntMulOk a b := .of_left (intBits_le_64 (by (first | lia | omega)) (by (first | lia | omega)))
theorem mulR {a b : Int} (h1 : -100000000 < b) (h2 : b < 100000000) : IntMulOk a b := .of_right (intBits_le_64 (by (first | lia | omega)) (by (first | lia | omega)))
noncomputable abbrev gapV (g : Int × Int) : PV := .tup [.int g.1, .int g.2]
noncomputable def differ (o t : Int × Int) (p q : Int) : Bool := decide ((2 * q - 2 * p) * o.2 * t.2 < (if o.1 * t.2 - t.1 * o.2 < 0 then -(o.1 * t.2 - t.1 * o.2) else o.1 * t.2 - t.1 * o.2) * (2 * q - p))
theorem law_differ {prog : Program} {w : World} {o t : Int × Int} {p q : Int} (ho : 0 ≤ o.1 ∧ o.1 < 1000 ∧ 0 ≤ o.2 ∧ o.2 < 1000) (ht : 0 ≤ t.1 ∧ t.1 < 1000 ∧ 0 ≤ t.2 ∧ t.2 < 1000) (hp : 0 ≤ p ∧ p < 1000) (hq : 0 ≤ q ∧ q < 1000) :
    PureFn prog w (frag w.params) 0 at_law_differ [gapV o, gapV t, .int p, .int q] (.bool (differ o t p q)) := by
  intro A h F vs hh room units G std args
  refine (fn_run (lD := []) (ns := [(Str.ofString "one"), (Str.ofString "other"), (Str.ofString "p"), (Str.ofString "q")]) 0 (fun r _ => r = .bool (differ o t p q)) (fn_differ w.params) hh room units (fun h' s => G.sub s) (fun a o e => ⟨std a o e, by simp⟩) (by first | walk_at "mem" | simp) (by first | walk_at "mem" | simp) ?_ (by decide +kernel) ?_ (by kernel_rfl!) args ?_)
  · obtain ⟨v1, v2, v3, v4, rfl⟩ : ∃ v1 v2 v3 v4, vs = [v1, v2, v3, v4] := by
      cases args with | fz _ a => cases a with | fz _ a => cases a with | fz _ a => cases a with | fz _ a => cases a; exact ⟨_, _, _, _, rfl⟩
    kernel_rfl!
  · cases args with | fz _ a => cases a with | fz _ a => cases a with | fz _ a => cases a with | fz _ a => cases a; rfl
  · intro X ok sc cnew e1 e2 e3 e4 e5
    have hK : X.K = frag X.w.params := by rw [e3, e2]
    show Ex X [((Str.ofString "one"), .fz (gapV o)), ((Str.ofString "other"), .fz (gapV t)), ((Str.ofString "p"), .fz (.int p)), ((Str.ofString "q"), .fz (.int q))] _ _
    refine Ex.ret (p := .bool (differ o t p q)) ?_ (by simp [Safe]) rfl
    refine E.compare (x := .int ((if o.1 * t.2 - t.1 * o.2 < 0 then -(o.1 * t.2 - t.1 * o.2) else o.1 * t.2 - t.1 * o.2) * (2 * q - p))) (y := .int ((2 * q - 2 * p) * o.2 * t.2)) ?_ ?_ Cmp.gt
    · refine E.mulII (E.abs (E.builtin ok (by rw [hK]; kernel_rfl!) (by kernel_rfl!) ((sc.kind _).trans (by kernel_rfl!)) (by decide +kernel) (by decide +kernel)) (E.sub (E.mulII ?_ ?_ ?_) (E.mulII ?_ ?_ ?_)) rfl) (E.sub (E.mulII E.cInt ?_ ?_) ?_) ?_
      · exact E.subT ok (i := 0) (by walk_at "en") (by walk_at "en") (by (first | lia | omega)) rfl
      · exact E.subT ok (i := 1) (by walk_at "en") (by walk_at "en") (by (first | lia | omega)) rfl
      · exact mulL (by (first | lia | omega)) (by (first | lia | omega))
      · exact E.subT ok (i := 0) (by walk_at "en") (by walk_at "en") (by (first | lia | omega)) rfl
      · exact E.subT ok (i := 1) (by walk_at "en") (by walk_at "en") (by (first | lia | omega)) rfl
      · exact mulL (by (first | lia | omega)) (by (first | lia | omega))
      · walk_at "en"
      · exact mulL (by (first | lia | omega)) (by (first | lia | omega))
      · walk_at "en"
      · exact mulR (by (first | lia | omega)) (by (first | lia | omega))
    · refine E.mulII (E.mulII (E.sub (E.mulII E.cInt ?_ ?_) (E.mulII E.cInt ?_ ?_)) ?_ ?_) ?_ ?_
      · walk_at "en"
      · exact mulL (by (first | lia | omega)) (by (first | lia | omega))
      · walk_at "en"
      · exact mulL (by (first | lia | omega)) (by (first | lia | omega))
      · exact E.subT ok (i := 1) (by walk_at "en") (by walk_at "en") (by (first | lia | omega)) rfl
      · exact mulL (by (first | lia | omega)) (by (first | lia | omega))
      · exact E.subT ok (i := 1) (by walk_at "en") (by walk_at "en") (by (first | lia | omega)) rfl
      · exact mulR (by (first | lia | omega)) (by (first | lia | omega))
end Mine

end
local macro_rules | `(tactic| walk_at "lk") => `(tactic| first | with_reducible exact Mine.look_here | (with_reducible refine Mine.look_next (by decide +kernel) ?_; walk_at "lk"))
local macro_rules | `(tactic| walk_at "sb") => `(tactic| first | with_reducible exact Mine.sub_nil | (with_reducible refine Mine.sub_cons (by walk_at "lk") ?_; walk_at "sb"))
local macro_rules | `(tactic| walk_at "ld") => `(tactic| exact Mine.Sto.loc (by assumption) (by kernel_rfl!))
local macro_rules | `(tactic| walk_at "en") => `(tactic| first | exact Mine.E.name (by assumption) (by walk_at "lk") (by decide +kernel) | exact Mine.E.nameO (by assumption) (by walk_at "lk") (by decide +kernel) | exact Mine.E.cInt | exact Mine.E.cBool)
section
open PySem PySem.W PyProof.Rows PySem.Calls
set_option Elab.async false
set_option linter.unusedVariables false
set_option maxRecDepth 100000
set_option maxHeartbeats 4000000
namespace Mine
local macro_rules | `(tactic| walk_at "en") => `(tactic| first | exact E.name (by assumption) (by walk_at "lk") (by decide +kernel) | exact E.nameL (by assumption) (by walk_at "lk") (by decide +kernel) | exact E.cInt | exact E.cBool)
section
variable {prog : Program} {w : World} {A : Around} {h h' h₀ : Heap}
theorem t_remove {a : Addr} {o : Obj} {vs : List Value} {ns : List Int} {k : Int} {t : Tok} {Q : Value → Heap → Prop} (ho : h.get? a = some o) (hl : IsLst o vs) (hi : IntsAre vs ns) (hx : k ∈ ns) (hz : ns.length ≤ 1000000)
    (q : ∀ h' o' vs', Sub [a] h h' → h'.get? a = some o' → IsLst o' vs' → IntsAre vs' (ns.erase k) → Q .none h') : T prog w A (PySem.call (.builtin "list.remove") [.ref a, .int k t]) h Q := fun s es => by
  subst es
  obtain ⟨n, rfl⟩ := hl
  have len := hi.length
  have hj : ns.idxOf k < ns.length := List.idxOf_lt_length_iff.mpr hx
  have at_ : ∀ i (hi' : i < vs.length), ∃ u, vs[i] = .int (ns[i]'(by (first | lia | omega))) u := fun i hi' => by
    obtain ⟨u, e⟩ := hi.get i (ns[i]'(by (first | lia | omega))) (by first | walk_at "mem" | simp)
    rw [List.getElem?_eq_getElem hi'] at e
    exact ⟨u, Option.some.inj e⟩
  refine call_meets PySem.F.slot_list_remove ⟨_, ho, rfl⟩ PySem.F.entry_list_remove (PySem.F.args_list_remove_2 _ _) (PySem.MeetsSeq.list_remove a vs.toArray n (.int k t) (fun y => match y with | .int m _ => m == k | _ => false) ?_ (ns.idxOf k) (by simpa using by (first | lia | omega)) ?_ ?_ (by rw [sizeLine_eq]; simp; (first | lia | omega))) ⟨ho, ?_⟩
  · intro y hy
    obtain ⟨i, hi', e⟩ := List.getElem_of_mem (by simpa using hy : y ∈ vs)
    obtain ⟨u, e2⟩ := at_ i hi'
    rw [← e, e2]
    exact MeetsSeq.EqGives.int _ _ _ _
  · obtain ⟨u, e2⟩ := at_ (ns.idxOf k) (by (first | lia | omega))
    simp only [List.getElem_toArray, e2]
    rw [List.getElem_idxOf hj]; simp
  · intro i hi' hlt
    obtain ⟨u, e2⟩ := at_ i (by simpa using hi')
    simp only [List.getElem_toArray, e2]
    have := List.not_of_lt_findIdx (p := (· == k)) (xs := ns) (i := i) hlt
    simpa using this
  · have hy : vs.eraseIdx (ns.idxOf k) = vs.eraseIdx (ns.idxOf k) := rfl
    refine ⟨_, s.toks, rfl, q _ _ (vs.eraseIdx (ns.idxOf k)) (Sub.same (Heap.SameBut.update ..)) (Heap.get?_update_self _ ho rfl) ?_ ?_⟩
    · have e : vs.toArray.eraseIdxIfInBounds (ns.idxOf k) = (vs.eraseIdx (ns.idxOf k)).toArray := by simp
      unfold Obj.mapSeq
      dsimp only
      rw [e]
      exact ⟨_, rfl⟩
    · rw [List.erase_eq_eraseIdx_of_idxOf rfl]
      generalize ns.idxOf k = j
      clear q ho hx hz hj at_ hy len
      induction hi generalizing j with
      | nil => simp; exact .nil
      | cons n t r ih =>
        cases j with
        | zero => exact r
        | succ j => exact .cons n t (ih j)
end
theorem strike_snoc (x : Int) : ∀ (xs l : List Int), strike l (xs ++ [x]) = if x ∈ strike l xs then (strike l xs).erase x else strike l xs
  | [], l => by by_cases h : x ∈ l <;> simp [strike, h]
  | y :: r, l => by
    rw [List.cons_append, strike, strike, strike_snoc x r]
theorem strike_le : ∀ (xs l : List Int), (strike l xs).length ≤ l.length
  | [], l => Nat.le_refl _
  | y :: r, l => by
    rw [strike]
    refine Nat.le_trans (strike_le r _) ?_
    split
    · exact List.length_erase_le
    · exact Nat.le_refl _
section
variable {X : Fm} {Γ Γ' Γc : Ctx} {F F' : Store} {m : Str → Option Value} {l : List (Addr × Obj)} {h h' : Heap} {Q : Out → Prop} {rest : List Stmt} {s : Scope} {cn : List Str}
theorem Cmp.inL {X : Fm} (ok : FmOk X) {p : PV} {ns : List Int} {k : Int} (il : IsL p (ns.map .int)) : Cmp X .In (.int k) p (decide (k ∈ ns)) := fun Γ F m l h u v H ru rv => by
  obtain ⟨a, vs, rfl, hl, rs⟩ := H.lst ok il rv
  · obtain ⟨t, rfl⟩ := ru.i
    have hi := rs.toInts
    refine TP.of fun s es => ?_
    subst es
    refine PySem.SeqAt.in_listAt (fun y => match y with | .int m _ => m == k | _ => false) hl (fun y hy => ?_) ⟨s.heap, s.toks, rfl, F, fun _ _ e => e, H, ?_⟩
    · obtain ⟨i, hi', e⟩ := List.getElem_of_mem (by simpa using hy : y ∈ vs)
      obtain ⟨u, e2⟩ := hi.get i (ns[i]'(by have := hi.length; (first | lia | omega))) (by first | walk_at "mem" | simp)
      rw [List.getElem?_eq_getElem hi', e] at e2
      obtain rfl := Option.some.inj e2
      exact (MeetsSeq.EqGives.int _ _ _ _).at _ _
    · have : (vs.toArray.any fun y => match y with | .int m _ => m == k | _ => false) = decide (k ∈ ns) := by
        clear hl rs rv il
        rw [List.any_toArray]
        induction hi with
        | nil => simp
        | cons n t r ih =>
          rw [List.any_cons, ih]
          by_cases c : n = k
          · subst c; simp
          · have c' : ¬ k = n := fun z => c z.symm
            simp [c, c']
      rw [this]
      exact .bool _
theorem Ex.remove (ok : FmOk X) {pl : Sem Bool} {x : Str} {px pa pc pos : Pos} {e : PySem.Expr} {a : Addr} {ns : List Int} {k : Int} (hx : Γ.lookup x = some (.own a (.list (ns.map .int)))) (ee : E X Γ e (.int k)) (hk : k ∈ ns) (hsz : ns.length ≤ 1000000) (hst : noStars [e] = true) (hd : (x == ("__debug__" : Str)) = false)
    (he : ∀ Q' h, (TP X.prog X.w X.A (eval (.Name x px) X.env) h fun ov h₁ => TP X.prog X.w X.A (getMethod ov (Str.ofString "remove") pl) h₁ fun fx h₂ => TP X.prog X.w X.A (PySem.callWith pc fx.1 fx.2 (backTo pc (starEach [e] X.env)) []) h₂ Q') → TP X.prog X.w X.A (eval (.Call (.Attribute (.Name x px) (Str.ofString "remove") pa) [e] [] pc) X.env) h Q')
    (r : Ex X ((x, .own a (.list ((ns.erase k).map .int))) :: Γ) rest Q) (hs : swapsWith (.Call (.Attribute (.Name x px) (Str.ofString "remove") pa) [e] [] pc) none pos.line X.env = Pure.pure false := by rfl) : Ex X Γ (.Expr (.Call (.Attribute (.Name x px) (Str.ofString "remove") pa) [e] [] pc) pos :: rest) Q := .cons fun F m l h H => by
  refine TP.Expr (he _ _ ?_) ok.e.inter hs
  obtain ⟨o, lk, hl, oR⟩ := H.own hx
  refine look_eval ok H lk hd ?_
  cases oR with
  | list lst rs =>
    have g := H.s.led _ hl
    refine TP.of (t_getMethodB g lst.cls.1 lst.cls.2 PySem.F.plainAttrs_list PySem.F.slot_list_remove PySem.F.type_list_remove ?_)
    refine TP.callWith ((ee F m l h H).mono fun v h₁ ⟨F₁, le₁, H₁, r₁⟩ => ⟨Keeps.builtin, ?_⟩) hst
    · obtain ⟨t, rfl⟩ := r₁.i
      refine TP.of (t_remove (H₁.s.led _ hl) lst rs.toInts hk hsz fun h₂ o₂ vs₂ s₂ g₂ l₂ i₂ => ⟨(fun b q => by cases q), ?_⟩)
      obtain ⟨l', H₂⟩ := H₁.turn ok hx lk hl (.list lst (rs.mono le₁ fun _ _ e => e)) s₂ g₂ (p' := .list ((ns.erase k).map .int)) (.list l₂ (Reps.ints i₂))
      exact ⟨_, F₁, m, l', le₁, H₂, r⟩
end
theorem law_common {prog : Program} {w : World} {ns ms : List Int} (hn : ns.length < 1000) (hm : ms.length < 1000) : PureFn prog w (frag w.params) 0 at_law_common [.list (ns.map .int), .list (ms.map .int)] (.int (qm ms [] ns : Nat)) := by
  intro A h F vs hh room units G std args
  refine (fn_run (lD := []) (ns := [(Str.ofString "one"), (Str.ofString "other")]) 0 (fun r _ => r = .int (qm ms [] ns : Nat)) (fn_common w.params) hh room units (fun h' s => G.sub s) (fun a o e => ⟨std a o e, by simp⟩) (by first | walk_at "mem" | simp) (by first | walk_at "mem" | simp) ?_ (by decide +kernel) ?_ (by kernel_rfl!) args ?_)
  · obtain ⟨v1, v2, rfl⟩ : ∃ v1 v2, vs = [v1, v2] := by
      cases args with | fz _ a => cases a with | fz _ a => cases a; exact ⟨_, _, rfl⟩
    kernel_rfl!
  · cases args with | fz _ a => cases a with | fz _ a => cases a; rfl
  · intro X ok sc cnew e1 e2 e3 e4 e5
    have hK : X.K = frag X.w.params := by rw [e3, e2]
    show Ex X [((Str.ofString "one"), .fz (.list (ns.map .int))), ((Str.ofString "other"), .fz (.list (ms.map .int)))] _ _
    refine Ex.assignN ok (p := .list (ms.map .int)) ?_ (Safes.ints ms) (by walk_at "ld") fun a _ => ?_
    · exact N.listOf ok (E.builtin ok (by rw [hK]; kernel_rfl!) (by kernel_rfl!) ((sc.kind _).trans (by kernel_rfl!)) (by decide +kernel) (by decide +kernel)) (by walk_at "en") (.list _) (by simpa using by (first | lia | omega)) rfl
    refine Ex.forIn ok (n := (ns.map PV.int).length) (P := fun i => .int (ns.getD i 0)) (It.listN ok (xs := ns.map .int) ?_ (Safes.ints ns) (fun i hi => ?_)) (fun i => [((Str.ofString "left"), .own a (.list ((strike ms (ns.take i)).map .int))), ((Str.ofString "one"), .fz (.list (ns.map .int))), ((Str.ofString "other"), .fz (.list (ms.map .int)))])
      (fun i => [((Str.ofString "x"), .fz (.int (ns.getD i 0))), ((Str.ofString "left"), .own a (.list ((strike ms (ns.take i)).map .int))), ((Str.ofString "one"), .fz (.list (ns.map .int))), ((Str.ofString "other"), .fz (.list (ms.map .int)))]) ?_ (fun i _ => As.name ok (by walk_at "ld")) (fun i hi => ?_) ?_
    · walk_at "en"
    · have : i < ns.length := by simpa using hi
      simp [this]
    · rw [List.take_zero, strike]; walk_at "sb"
    · have hi' : i < ns.length := by simpa using hi
      have hg : ns.getD i 0 = ns[i] := by simp [hi']
      have ht : ns.take (i + 1) = ns.take i ++ [ns[i]] := by rw [List.take_add_one]; simp [hi']
      have hlen := strike_le (ns.take i) ms
      refine Ex.ite (c := decide (ns.getD i 0 ∈ strike ms (ns.take i))) (B.compare (by walk_at "en") (by walk_at "en") (Cmp.inL ok (.rlist _))) (fun c => ?_) (fun c => Ex.nil (Ex.nil ?_))
      · refine Ex.remove ok (by walk_at "lk") (by walk_at "en") (of_decide_eq_true c) (by (first | lia | omega)) rfl (by decide +kernel) (fun Q' h t => TP.Call_method t) (Ex.nil (Ex.nil ?_))
        show ∀ x b, _ → _
        rw [ht, strike_snoc, if_pos (by rw [← hg]; exact of_decide_eq_true c), ← hg]
        walk_at "sb"
      · show ∀ x b, _ → _
        rw [ht, strike_snoc, if_neg (by rw [← hg]; exact of_decide_eq_false c)]
        walk_at "sb"
    · rw [List.length_map, List.take_length]
      have c := common_qm ns ms
      have hl := strike_le ns ms
      refine Ex.ret (p := .int (qm ms [] ns : Nat)) (E.eq (x := .int (((ms.map PV.int).length : Int) - (((strike ms ns).map PV.int).length : Int))) ?_ (E.sub (E.len ok (E.builtin ok (by rw [hK]; kernel_rfl!) (by kernel_rfl!) ((sc.kind _).trans (by kernel_rfl!)) (by decide +kernel) (by decide +kernel)) (by walk_at "en") (.list _) (by simpa using by (first | lia | omega)) rfl) (E.len ok (E.builtin ok (by rw [hK]; kernel_rfl!) (by kernel_rfl!) ((sc.kind _).trans (by kernel_rfl!)) (by decide +kernel) (by decide +kernel)) (by walk_at "en") (.rlist _) (by simpa using by (first | lia | omega)) rfl))) (by simp [Safe]) rfl
      rw [List.length_map, List.length_map]
      congr 1
      (first | lia | omega)
end Mine

end
local macro_rules | `(tactic| walk_at "en") => `(tactic| first | exact Mine.E.name (by assumption) (by walk_at "lk") (by decide +kernel) | exact Mine.E.nameL (by assumption) (by walk_at "lk") (by decide +kernel) | exact Mine.E.cInt | exact Mine.E.cBool)
section
set_option linter.unusedVariables false
open PySem PySem.Float64
set_option exponentiation.threshold 5000
namespace Mine
theorem right_lt {W D t t' : Nat} (hD : 0 < D) (htt : t < t') (h1 : ∀ s, dist W (D * V t) ≤ dist W (D * V s)) (h2 : ∀ s, dist W (D * V t') ≤ dist W (D * V s)) : t' = t + 1 := by
  have e : dist W (D * V t) = dist W (D * V t') := Nat.le_antisymm (h1 t') (h2 t)
  rcases Nat.lt_or_ge (t + 1) t' with c | c
  · exfalso
    have a1 := V_lt (Nat.lt_succ_self t)
    have a2 := V_lt c
    have b1 : D * V t < D * V (t + 1) := Nat.mul_lt_mul_of_pos_left a1 hD
    have b2 : D * V (t + 1) < D * V t' := Nat.mul_lt_mul_of_pos_left a2 hD
    have c1 := h1 (t + 1)
    unfold dist at e c1
    omega
  · omega
theorem right_unique {r r' : UInt64} {neg : Bool} {W D : Nat} (hD : 0 < D) (x : Right r neg W D) (y : Right r' neg W D) : r = r' := by
  obtain ⟨t, rfl, ht, ov, near⟩ := x
  obtain ⟨t', rfl, ht', ov', near'⟩ := y
  by_cases c : t = infMag
  · rw [c, ov'.mpr (ov.mp c)]
  · have c' : t' ≠ infMag := fun z => c (ov.mpr (ov'.mp z))
    have n1 := near (by omega)
    have n2 := near' (by omega)
    have key : ∀ {t t' : Nat}, (∀ s, dist W (D * V t) ≤ dist W (D * V s) ∧ (V s ≠ V t → dist W (D * V t) = dist W (D * V s) → t % 2 = 0)) → (∀ s, dist W (D * V t') ≤ dist W (D * V s) ∧ (V s ≠ V t' → dist W (D * V t') = dist W (D * V s) → t' % 2 = 0)) → ¬ t < t' := fun {t t'} m1 m2 htt => by
      have e1 := right_lt hD htt (fun s => (m1 s).1) (fun s => (m2 s).1)
      have e : dist W (D * V t) = dist W (D * V t') := Nat.le_antisymm (m1 t').1 (m2 t).1
      have hV := V_lt htt
      have p1 := (m1 t').2 (by omega) e
      have p2 := (m2 t).2 (by omega) e.symm
      omega
    have := key n1 n2
    have := key n2 n1
    rw [show t = t' by omega]
theorem V_int {n : Nat} (hn : n < 2 ^ 53) : ∃ s, V s = n * 2 ^ 1074 := by
  by_cases c : n = 0
  · exact ⟨0, by rw [c, V_zero, Nat.zero_mul]⟩
  · have l1 : 2 ^ n.log2 ≤ n := Nat.log2_self_le c
    have l2 : n < 2 ^ (n.log2 + 1) := Nat.lt_log2_self
    have l3 : n.log2 < 53 := (Nat.log2_lt c).mpr hn
    generalize n.log2 = l at *
    refine ⟨(1022 + l) * 2 ^ 52 + n * 2 ^ (52 - l), ?_⟩
    have q1 : 2 ^ 52 ≤ n * 2 ^ (52 - l) := by
      have : 2 ^ l * 2 ^ (52 - l) ≤ n * 2 ^ (52 - l) := Nat.mul_le_mul_right _ l1
      rwa [← Nat.pow_add, show l + (52 - l) = 52 by omega] at this
    have q2 : n * 2 ^ (52 - l) ≤ 2 ^ 53 := by
      have : n * 2 ^ (52 - l) ≤ 2 ^ (l + 1) * 2 ^ (52 - l) := Nat.mul_le_mul_right _ (Nat.le_of_lt l2)
      rwa [← Nat.pow_add, show l + 1 + (52 - l) = 53 by omega] at this
    rw [V_at q2 (.inl q1), Nat.mul_assoc, ← Nat.pow_add, show 52 - l + (1022 + l) = 1074 by omega]
theorem ofInt_fin {n : Nat} (hn : n < 2 ^ 53) : ∃ m e, decode (ofInt (n : Int)) = .fin false m e ∧ val (ofInt (n : Int)) = ((n * 2 ^ 1074 : Nat) : Int) := by
  obtain ⟨t, hr, ht, ov, near⟩ := ofInt_right (n : Int)
  rw [show decide ((n : Int) < 0) = false from decide_eq_false (by omega)] at hr
  rw [Int.natAbs_natCast] at ov near
  have h1 : t < infMag := by
    rcases Nat.lt_or_ge t infMag with c | c
    · exact c
    · exfalso
      have e := ov.mp (by omega)
      have l1 : n * 2 ^ 1074 < 2 ^ 53 * 2 ^ 1074 := Nat.mul_lt_mul_of_pos_right hn (Nat.two_pow_pos _)
      have l2 : (2 ^ 53 * 2 ^ 1074 : Nat) * 2 ≤ 1 * ((2 ^ 54 - 1) * 2 ^ 2045) := by decide +kernel
      omega
  obtain ⟨s, hs⟩ := V_int hn
  have hV : V t = n * 2 ^ 1074 := by
    have := (near h1 s).1
    rw [Nat.one_mul, Nat.one_mul, hs] at this
    unfold dist at this
    omega
  obtain ⟨m, e, d1, d2⟩ := decode_pack false h1
  refine ⟨m, e, hr ▸ d1, ?_⟩
  rw [hr, val_pack false h1, hV]
  rfl
theorem two_fin : ∃ m e, decode 0x4000000000000000 = .fin false m e ∧ val 0x4000000000000000 = ((2 * 2 ^ 1074 : Nat) : Int) := by
  obtain ⟨m, e, h1, h2⟩ := ofInt_fin (n := 2) (by decide)
  have : ofInt ((2 : Nat) : Int) = 0x4000000000000000 := by decide +kernel
  rw [this] at h1 h2
  exact ⟨m, e, h1, h2⟩
theorem ofInt_right' {n W D : Nat} (hW : n * 2 ^ 1074 * D = W) (hD : 0 < D) : Right (ofInt (n : Int)) false W D := by
  have := ofFrac_right (neg := false) (n := n) (d := 1) (W := W) (D := D) (by decide) (by rw [hW, Nat.mul_one]) hD
  unfold ofInt
  rw [show decide ((n : Int) < 0) = false from decide_eq_false (by omega), Int.natAbs_natCast]
  exact this
theorem twice {m : Nat} (hm : m < 2 ^ 53) : mul 0x4000000000000000 (ofInt (m : Int)) = ofInt ((2 * m : Nat) : Int) := by
  obtain ⟨a, e, h1, h2⟩ := two_fin
  obtain ⟨b, f, g1, g2⟩ := ofInt_fin hm
  have r := mul_right h1 g1
  rw [h2, g2, Int.natAbs_natCast, Int.natAbs_natCast] at r
  refine right_unique (Nat.two_pow_pos _) r (ofInt_right' ?_ (Nat.two_pow_pos _))
  generalize 2 ^ 1074 = P
  ac_rfl
theorem ratio_frac {m n : Nat} (hm : m < 2 ^ 50) (h0 : 0 < n) (hn : n < 2 ^ 50) : div (mul 0x4000000000000000 (ofInt (m : Int))) (ofInt (n : Int)) = ofFrac false (2 * m) n := by
  rw [twice (by omega)]
  obtain ⟨a, e, h1, h2⟩ := ofInt_fin (n := 2 * m) (by omega)
  obtain ⟨b, f, g1, g2⟩ := ofInt_fin (n := n) (by omega)
  have hb : b ≠ 0 := fun z => by
    have := val_natAbs g1
    rw [g2, z, Nat.zero_mul, Int.natAbs_natCast] at this
    have p := Nat.two_pow_pos 1074
    generalize 2 ^ 1074 = P at *
    have := Nat.mul_pos h0 p
    omega
  have r := div_right h1 g1 hb
  rw [h2, g2, Int.natAbs_natCast, Int.natAbs_natCast] at r
  have hD : 0 < n * 2 ^ 1074 := Nat.mul_pos h0 (Nat.two_pow_pos _)
  refine right_unique hD r (ofFrac_right h0 ?_ hD)
  generalize 2 ^ 1074 = P
  ac_rfl
end Mine

end
section
set_option linter.unusedVariables false
open PySem PySem.Float64
set_option exponentiation.threshold 5000
set_option maxRecDepth 100000
namespace Mine
theorem V_dy {n : Nat} (hn : n < 2 ^ 53) : ∃ s, V s = n * 2 ^ 1054 := by
  by_cases c : n = 0
  · exact ⟨0, by rw [c, V_zero, Nat.zero_mul]⟩
  · have l1 : 2 ^ n.log2 ≤ n := Nat.log2_self_le c
    have l2 : n < 2 ^ (n.log2 + 1) := Nat.lt_log2_self
    have l3 : n.log2 < 53 := (Nat.log2_lt c).mpr hn
    generalize n.log2 = l at *
    refine ⟨(1002 + l) * 2 ^ 52 + n * 2 ^ (52 - l), ?_⟩
    have q1 : 2 ^ 52 ≤ n * 2 ^ (52 - l) := by
      have : 2 ^ l * 2 ^ (52 - l) ≤ n * 2 ^ (52 - l) := Nat.mul_le_mul_right _ l1
      rwa [← Nat.pow_add, show l + (52 - l) = 52 by omega] at this
    have q2 : n * 2 ^ (52 - l) ≤ 2 ^ 53 := by
      have : n * 2 ^ (52 - l) ≤ 2 ^ (l + 1) * 2 ^ (52 - l) := Nat.mul_le_mul_right _ (Nat.le_of_lt l2)
      rwa [← Nat.pow_add, show l + 1 + (52 - l) = 53 by omega] at this
    rw [V_at q2 (.inl q1), Nat.mul_assoc, ← Nat.pow_add, show 52 - l + (1002 + l) = 1054 by omega]
theorem over_arith {z1 z2 z3 z4 : Nat} (e : z1 ≤ 2 * z2) (l1 : z2 ≤ z3) (l4 : z4 < z1) (l5 : z4 = 2 * z3) : False := by omega
theorem near_arith {z1 z2 z3 z4 : Nat} (n1 : dist z2 z4 ≤ dist z2 z1) (lo : z1 ≤ z2) (hi : z2 < z1 + z3) : z4 < z2 + z3 ∧ z2 < z4 + z3 := by
  unfold dist at n1
  omega
theorem frac_near {a b : Nat} (hb : 0 < b) (hb2 : b ≤ 500) (ha : a ≤ 4 * b) : ∃ t m e, decode (ofFrac false a b) = .fin false m e ∧ val (ofFrac false a b) = ((V t : Nat) : Int) ∧ b * V t < a * 2 ^ 1074 + b * 2 ^ 1054 ∧ a * 2 ^ 1074 < b * V t + b * 2 ^ 1054 := by
  obtain ⟨t, hr, ht, ov, near⟩ := ofFrac_right (neg := false) (n := a) (d := b) (W := a * 2 ^ 1074) (D := b) hb rfl hb
  have h1 : t < infMag := by
    rcases Nat.lt_or_ge t infMag with c | c
    · exact c
    · exfalso
      have e := ov.mp (by omega)
      have l1 : a * 2 ^ 1074 ≤ 4 * b * 2 ^ 1074 := Nat.mul_le_mul_right _ ha
      have l3 : (4 * 2 ^ 1074 : Nat) * 2 < (2 ^ 54 - 1) * 2 ^ 2045 := by decide +kernel
      have l4 : b * ((4 * 2 ^ 1074) * 2) < b * ((2 ^ 54 - 1) * 2 ^ 2045) := Nat.mul_lt_mul_of_pos_left l3 hb
      have l5 : b * ((4 * 2 ^ 1074) * 2) = 2 * (4 * b * 2 ^ 1074) := by ac_rfl
      exact over_arith e l1 l4 l5
  obtain ⟨m, e, d1, d2⟩ := decode_pack false h1
  refine ⟨t, m, e, hr ▸ d1, by rw [hr, val_pack false h1]; rfl, ?_⟩
  have hk : a * 2 ^ 20 / b < 2 ^ 53 := by
    have : a * 2 ^ 20 / b ≤ 4 * 2 ^ 20 := by
      rw [Nat.div_le_iff_le_mul hb]
      have := Nat.mul_le_mul_right (2 ^ 20) ha
      omega
    omega
  obtain ⟨s, hs⟩ := V_dy hk
  have n1 := (near h1 s).1
  rw [hs] at n1
  have e1 := Nat.div_add_mod (a * 2 ^ 20) b
  have e2 := Nat.mod_lt (a * 2 ^ 20) hb
  have p20 : (2 : Nat) ^ 1074 = 2 ^ 20 * 2 ^ 1054 := by rw [← Nat.pow_add]
  have lo : b * (a * 2 ^ 20 / b * 2 ^ 1054) ≤ a * 2 ^ 1074 := by
    rw [p20, ← Nat.mul_assoc, ← Nat.mul_assoc]
    exact Nat.mul_le_mul_right _ (by omega)
  have hi : a * 2 ^ 1074 < b * (a * 2 ^ 20 / b * 2 ^ 1054) + b * 2 ^ 1054 := by
    rw [p20, ← Nat.mul_assoc, ← Nat.mul_assoc, ← Nat.add_mul]
    exact Nat.mul_lt_mul_of_pos_right (by omega) (Nat.two_pow_pos _)
  exact near_arith n1 lo hi
theorem frac_lt {a b c d : Nat} (hb : 0 < b) (hb2 : b ≤ 500) (ha : a ≤ 4 * b) (hd : 0 < d) (hd2 : d ≤ 500) (hc : c ≤ 4 * d) (h : a * d < c * b) : val (ofFrac false a b) < val (ofFrac false c d) := by
  obtain ⟨t, _, _, _, v1, n1, _⟩ := frac_near hb hb2 ha
  obtain ⟨u, _, _, _, v2, _, n2⟩ := frac_near hd hd2 hc
  rw [v1, v2]
  have key : V t < V u := by
    have p20 : (2 : Nat) ^ 1074 = 2 ^ 20 * 2 ^ 1054 := by rw [← Nat.pow_add]
    rw [p20] at n1 n2
    have hQ := Nat.two_pow_pos 1054
    generalize (2 : Nat) ^ 1054 = Q at *
    have m1 : d * (b * V t) < d * (a * (2 ^ 20 * Q) + b * Q) := Nat.mul_lt_mul_of_pos_left n1 hd
    have m2 : b * (c * (2 ^ 20 * Q)) < b * (d * V u + d * Q) := Nat.mul_lt_mul_of_pos_left n2 hb
    have e1 : d * (a * (2 ^ 20 * Q) + b * Q) = (a * d) * (2 ^ 20 * Q) + (b * d) * Q := by rw [Nat.mul_add]; congr 1 <;> ac_rfl
    have e2 : b * (c * (2 ^ 20 * Q)) = (c * b) * (2 ^ 20 * Q) := by ac_rfl
    have e3 : b * (d * V u + d * Q) = d * (b * V u) + (b * d) * Q := by rw [Nat.mul_add]; congr 1 <;> ac_rfl
    rw [e1] at m1
    rw [e2, e3] at m2
    have hbd : b * d ≤ 500 * 500 := Nat.mul_le_mul hb2 hd2
    have q1 : (a * d + 1) * (2 ^ 20 * Q) ≤ (c * b) * (2 ^ 20 * Q) := Nat.mul_le_mul_right _ h
    have q2 : (b * d) * Q ≤ 250000 * Q := Nat.mul_le_mul_right _ hbd
    have lt : d * (b * V t) < d * (b * V u) := by
      rw [Nat.add_mul, Nat.one_mul] at q1
      generalize (a * d) * (2 ^ 20 * Q) = z1 at *
      generalize (c * b) * (2 ^ 20 * Q) = z2 at *
      generalize (b * d) * Q = z3 at *
      generalize d * (b * V t) = z4 at *
      generalize d * (b * V u) = z5 at *
      omega
    exact Nat.lt_of_mul_lt_mul_left (Nat.lt_of_mul_lt_mul_left lt)
  omega
theorem frac_eq {a b c d : Nat} (hb : 0 < b) (hd : 0 < d) (h : a * d = c * b) : ofFrac false a b = ofFrac false c d := by
  have hD : 0 < b * d := Nat.mul_pos hb hd
  refine right_unique hD (ofFrac_right (W := a * d * 2 ^ 1074) (D := b * d) hb ?_ hD) (ofFrac_right hd ?_ hD)
  · generalize (2 : Nat) ^ 1074 = P; ac_rfl
  · rw [h]; generalize (2 : Nat) ^ 1074 = P; ac_rfl
theorem frac_cmp {a b c d : Nat} (hb : 0 < b) (hb2 : b ≤ 500) (ha : a ≤ 4 * b) (hd : 0 < d) (hd2 : d ≤ 500) (hc : c ≤ 4 * d) : cmp (ofFrac false a b) (ofFrac false c d) = some (compare (a * d) (c * b)) := by
  obtain ⟨t, m, e, d1, _⟩ := frac_near hb hb2 ha
  obtain ⟨u, m', e', d2, _⟩ := frac_near hd hd2 hc
  rw [cmp_right d1 d2]
  congr 1
  rcases Nat.lt_trichotomy (a * d) (c * b) with h | h | h
  · rw [Nat.compare_eq_lt.mpr h]
    exact Int.compare_eq_lt.mpr (frac_lt hb hb2 ha hd hd2 hc h)
  · rw [frac_eq hb hd h, Nat.compare_eq_eq.mpr h]
    exact Int.compare_eq_eq.mpr rfl
  · rw [Nat.compare_eq_gt.mpr h]
    exact Int.compare_eq_gt.mpr (frac_lt hd hd2 hc hb hb2 ha h)
end Mine

end
section
open PySem PySem.W PyProof.Rows PySem.Calls
set_option Elab.async false
set_option linter.unusedVariables false
set_option maxRecDepth 100000
set_option maxHeartbeats 4000000
namespace Mine
section
variable {X : Fm} {Γ Γ' Γc : Ctx} {F F' : Store} {m : Str → Option Value} {l : List (Addr × Obj)} {h h' : Heap} {Q : Out → Prop} {rest ss : List Stmt} {s : Scope} {cn : List Str}
theorem Ex.matOpen {ι : Type} {M : Str} {d C : Addr} (Ps : ι → Store → Obj → Prop) (mono : ∀ i F F' od, Ps i F od → (∀ a o, F a o → ¬ NoVal o → F' a o) → Ps i F' od) (hx : Γ.lookup M = some (.mat d C fun F od => ∃ i, Ps i F od)) (r : ∀ i, Ex X ((M, .mat d C (Ps i)) :: Γ) ss Q) : Ex X Γ ss Q := fun F m l h H => by
  obtain ⟨v, lk, x, od, rfl, fx, hd, hk, hp⟩ := H.nm M _ hx
  obtain ⟨i, hi⟩ := hp F fun _ _ e _ => e
  refine r i F m l h (H.rebind (b' := .mat d C (Ps i)) hx (fun _ q => q) fun v ⟨x', od', e1, e2, e3, e4, _⟩ => ?_)
  obtain rfl := H.s.one hd e3
  exact ⟨x', _, e1, e2, e3, e4, fun F2 q => mono i F F2 _ hi q⟩
theorem Ex.matWeak {M : Str} {d C : Addr} {P P' : Store → Obj → Prop} (hx : Γ.lookup M = some (.mat d C P)) (hw : ∀ F od, P F od → P' F od) (r : Ex X ((M, .mat d C P') :: Γ) ss Q) : Ex X Γ ss Q := fun F m l h H =>
  r F m l h (H.rebind (b' := .mat d C P') hx (fun _ q => q) fun v ⟨x', od', e1, e2, e3, e4, e5⟩ => ⟨x', od', e1, e2, e3, e4, fun F2 q => hw _ _ (e5 F2 q)⟩)
end
noncomputable abbrev MatE (prog : Program) (w : World) : Store → Obj → Prop := fun F od => ∃ i : Seq × Seq, MatP prog w i.1 i.2 F od
noncomputable abbrev MatB (prog : Program) (w : World) (ms : List Int) : Store → Obj → Prop := fun F od => ∃ a : Seq, MatP prog w a (.lst ms) F od
noncomputable def gp (r ms : List Int) : Int × Int := (((r.length + ms.length : Nat) : Int) - 2 * (qm ms [] r : Nat), ((r.length + ms.length : Nat) : Int) - (qm ms [] r : Nat))
theorem fn_gaps (P : Params) : FnOkC (frag P) at_law_gaps fdOf_law_gaps (bodyN (stN pwBody 8)) :=
  ⟨⟨obOf_law_gaps P, by kernel_rfl!, rfl⟩, by kernel_rfl!, by kernel_rfl!, by kernel_rfl!, by kernel_rfl!, by kernel_rfl!, by kernel_rfl!, by kernel_rfl!, by kernel_rfl!⟩
theorem ratioF_frac {m n : Nat} (hm : m ≤ n) (h0 : 0 < n) (hn : n ≤ 500) : ratioF m n = Float64.ofFrac false (2 * m) n := by
  rw [ratioF, if_neg (by (first | lia | omega))]
  exact ratio_frac (by (first | lia | omega)) h0 (by (first | lia | omega))
theorem told_eq {c m n : Nat} (hc : 2 * c ≤ n) (hm : 2 * m ≤ n) (h0 : 0 < n) (hn : n ≤ 500) : (Float64.cmp (Float64.ofFrac (decide ((2 : Int) * (c : Int) < 0) != decide ((n : Int) < 0)) ((2 : Int) * (c : Int)).natAbs (n : Int).natAbs) (ratioF m n) == some .eq) = decide (c = m) := by
  have e1 : decide ((2 : Int) * (c : Int) < 0) = false := decide_eq_false (by (first | lia | omega))
  have e2 : decide ((n : Int) < 0) = false := decide_eq_false (by (first | lia | omega))
  have e3 : ((2 : Int) * (c : Int)).natAbs = 2 * c := by (first | lia | omega)
  rw [e1, e2, e3, Int.natAbs_natCast, ratioF_frac (by (first | lia | omega)) h0 hn]
  show (Float64.cmp (Float64.ofFrac false (2 * c) n) _ == some .eq) = _
  rw [frac_cmp h0 hn (by (first | lia | omega)) h0 hn (by (first | lia | omega))]
  by_cases h : c = m
  · subst h
    rw [Nat.compare_eq_eq.mpr rfl]; simp
  · have : ¬ 2 * c * n = 2 * m * n := fun q => h (by
      have := Nat.eq_of_mul_eq_mul_right h0 q
      (first | lia | omega))
    rw [decide_eq_false h]
    cases q : compare (2 * c * n) (2 * m * n) with
    | eq => exact absurd (Nat.compare_eq_eq.mp q) this
    | lt => rfl
    | gt => rfl
theorem qm_leb (a b : List Int) : qm b [] a ≤ b.length := by
  have := common_qm a b
  (first | lia | omega)
theorem law_gaps {prog : Program} {w : World} {A : Around} {h : Heap} {F : Store} {vs : List Value} {lD : List (Addr × Obj)} {d : Addr} {rss : List (List Int)} {ms : List Int} (hr : ∀ r ∈ rss, r.length < 150) (hm : ms.length < 150) (hne : ms ≠ [] ∨ ∀ r ∈ rss, r ≠ []) (hz : rss.length < 100) (hh : A.handled = none) (room : A.depth + 21 < recursionLimit) (units : A.units + 30 < cLine)
    (G : ∀ h', Sub (lD.map (·.1)) h h' → Gr (frag w.params) h') (std : ∀ a o, F a o → h.get? a = some o ∧ a ∉ lD.map (·.1)) (hl : ∀ p ∈ lD, h.get? p.1 = some p.2) (nd : (lD.map (·.1)).Nodup)
    (args : Args prog w F lD vs [.mat d aSM (MatE prog w), .fz (.list (rss.map fun r => .list (r.map .int))), .fz (.list (ms.map .int))]) :
    TCP prog w A (.call (.ref at_law_gaps) ⟨vs, []⟩) h (Ret prog w F h (lD.map (·.1)) fun r Γ => r = .list (rss.map fun r => gapV (gp r ms)) ∧ ∃ M, Γ.lookup M = some (.mat d aSM (MatB prog w ms))) := by
  refine fn_run (ns := [(Str.ofString "matcher"), (Str.ofString "rows"), (Str.ofString "asked")]) 0 _ (fn_gaps w.params) hh room units G std hl nd ?_ (by decide +kernel) ?_ (by kernel_rfl!) args ?_
  · obtain ⟨v1, v2, v3, rfl⟩ : ∃ v1 v2 v3, vs = [v1, v2, v3] := by
      cases args with | mat _ _ _ _ _ a => cases a with | fz _ a => cases a with | fz _ a => cases a; exact ⟨_, _, _, rfl⟩
    kernel_rfl!
  · cases args with | mat _ _ _ _ _ a => cases a with | fz _ a => cases a with | fz _ a => cases a; rfl
  · intro X ok sc cnew e1 e2 e3 e4 e5
    have hK : X.K = frag X.w.params := by rw [e3, e2]
    show Ex X [((Str.ofString "matcher"), .mat d aSM (MatE prog w)), ((Str.ofString "rows"), .fz (.list (rss.map fun r => .list (r.map .int)))), ((Str.ofString "asked"), .fz (.list (ms.map .int)))] _ _
    subst e1 e2
    refine Ex.matOpen (fun i : Seq × Seq => MatP X.prog X.w i.1 i.2) (fun i F F' od x le => x.mono le) (M := (Str.ofString "matcher")) (d := d) (C := aSM) (by walk_at "lk") fun i => ?_
    refine Ex.exprM ok (EM.set2 ok (by walk_at "lk") hK (by walk_at "en") rfl (by decide +kernel) (by (first | lia | omega)) fun Q' h t => TP.Call_method t) ?_
    refine Ex.assignN ok (p := .list []) (N.disp ok .nil rfl (by decide)) (by simp [Safe, Safes]) (by walk_at "ld") fun a hD => ?_
    refine Ex.matWeak (M := (Str.ofString "matcher")) (d := d) (C := aSM) (P' := MatB X.prog X.w ms) (by walk_at "lk") (fun F od x => ⟨i.1, x⟩) ?_
    refine Ex.forIn ok (n := (rss.map fun r => PV.list (r.map .int)).length) (P := fun i => .list ((rss.getD i []).map .int)) (It.listN ok (xs := rss.map fun r => PV.list (r.map .int)) (by walk_at "en") (Safes.all fun x hx => ?_) (fun i hi => ?_))
      (fun i => [((Str.ofString "gaps"), .own a (.list ((rss.take i).map fun r => gapV (gp r ms)))), ((Str.ofString "matcher"), .mat d aSM (MatB X.prog X.w ms)), ((Str.ofString "rows"), .fz (.list (rss.map fun r => .list (r.map .int)))), ((Str.ofString "asked"), .fz (.list (ms.map .int)))])
      (fun i => [((Str.ofString "row"), .fz (.list ((rss.getD i []).map .int))), ((Str.ofString "gaps"), .own a (.list ((rss.take i).map fun r => gapV (gp r ms)))), ((Str.ofString "matcher"), .mat d aSM (MatB X.prog X.w ms)), ((Str.ofString "rows"), .fz (.list (rss.map fun r => .list (r.map .int)))), ((Str.ofString "asked"), .fz (.list (ms.map .int)))]) ?_ (fun i _ => As.name ok (by walk_at "ld")) (fun i hi => ?_) ?_
    · obtain ⟨r, _, rfl⟩ := List.mem_map.mp hx
      exact Safes.ints r
    · have : i < rss.length := by simpa using hi
      simp [this]
    · rw [List.take_zero, List.map_nil]; walk_at "sb"
    · have hi' : i < rss.length := by simpa using hi
      have hg : rss.getD i [] = rss[i] := by simp [hi']
      have ht : rss.take (i + 1) = rss.take i ++ [rss[i]] := by rw [List.take_add_one]; simp [hi']
      have hrl : rss[i].length < 150 := hr _ (List.getElem_mem hi')
      have hn0 : 0 < rss[i].length + ms.length := by
        rcases hne with q | q
        · have := List.length_pos_iff.mpr q; (first | lia | omega)
        · have := List.length_pos_iff.mpr (q _ (List.getElem_mem hi')); (first | lia | omega)
      rw [hg]
      have q1 := qm_le ms rss[i] []
      have q2 := qm_leb rss[i] ms
      generalize hrr : rss[i] = r at *
      refine Ex.matOpen (fun a => MatP X.prog X.w a (.lst ms)) (fun i F F' od x le => x.mono le) (M := (Str.ofString "matcher")) (d := d) (C := aSM) (by walk_at "lk") fun a0 => ?_
      refine Ex.exprM ok (EM.set1 ok (by walk_at "lk") hK (by walk_at "en") rfl (by decide +kernel) (by (first | lia | omega)) fun Q' h t => TP.Call_method t) ?_
      refine Ex.assignM ok (EM.quick ok (by walk_at "lk") hK (by decide +kernel) fun Q' h t => TP.Call_method t) (by walk_at "ld") ?_
      refine Ex.assign ok (p := .int ((r.length + ms.length : Nat) : Int)) (E.eq (x := .int (((r.map PV.int).length : Int) + ((ms.map PV.int).length : Int))) (by rw [List.length_map, List.length_map]; congr 1) (E.add (E.len ok (E.builtin ok (by rw [hK]; kernel_rfl!) (by kernel_rfl!) ((sc.kind _).trans (by kernel_rfl!)) (by decide +kernel) (by decide +kernel)) (by walk_at "en") (.list _) (by simpa using by (first | lia | omega)) rfl) (E.len ok (E.builtin ok (by rw [hK]; kernel_rfl!) (by kernel_rfl!) ((sc.kind _).trans (by kernel_rfl!)) (by decide +kernel) (by decide +kernel)) (by walk_at "en") (.list _) (by simpa using by (first | lia | omega)) rfl))) (by simp [Safe]) (by walk_at "ld") ?_
      generalize hn : r.length + ms.length = n at *
      generalize hq : qm ms [] r = q at *
      refine Ex.assign ok (p := gapV (0, 1)) (E.tup ok (.cons E.cInt (.cons E.cInt .nil)) rfl (by decide)) (by simp [Safe, Safes]) (by walk_at "ld") ?_
      refine Ex.forIn ok (n := n / 2 + 1) (P := fun c => .int c) (It.range1 ok (E.builtin ok (by rw [hK]; kernel_rfl!) (by kernel_rfl!) ((sc.kind _).trans (by kernel_rfl!)) (by decide +kernel) (by decide +kernel)) (E.eq (x := .int ((n : Int).fdiv 2 + 1)) ?_ (E.add (E.fdiv (by walk_at "en") E.cInt (by decide) (by decide)) E.cInt)) (by (first | lia | omega)) rfl)
        (fun c => [((Str.ofString "gap"), .fz (gapV (if q < c then ((n : Int) - 2 * (q : Nat), (n : Int) - (q : Nat)) else (0, 1)))), ((Str.ofString "whole"), .fz (.int n)), ((Str.ofString "told"), .fz (.flt (ratioF q n))), ((Str.ofString "gaps"), .own a (.list ((rss.take i).map fun r => gapV (gp r ms)))), ((Str.ofString "matcher"), .mat d aSM (MatP X.prog X.w (.lst r) (.lst ms))), ((Str.ofString "rows"), .fz (.list (rss.map fun r => .list (r.map .int)))), ((Str.ofString "asked"), .fz (.list (ms.map .int)))])
        (fun c => [((Str.ofString "common"), .fz (.int c)), ((Str.ofString "gap"), .fz (gapV (if q < c then ((n : Int) - 2 * (q : Nat), (n : Int) - (q : Nat)) else (0, 1)))), ((Str.ofString "whole"), .fz (.int n)), ((Str.ofString "told"), .fz (.flt (ratioF q n))), ((Str.ofString "gaps"), .own a (.list ((rss.take i).map fun r => gapV (gp r ms)))), ((Str.ofString "matcher"), .mat d aSM (MatP X.prog X.w (.lst r) (.lst ms))), ((Str.ofString "rows"), .fz (.list (rss.map fun r => .list (r.map .int)))), ((Str.ofString "asked"), .fz (.list (ms.map .int)))]) ?_ (fun c _ => As.name ok (by walk_at "ld")) (fun c hc => ?_) ?_
      · rw [Int.fdiv_eq_ediv_of_nonneg _ (by (first | lia | omega))]
        congr 1
      · rw [if_neg (by (first | lia | omega))]; walk_at "sb"
      · refine Ex.ite (B.compare (E.divII (E.mulII E.cInt (by walk_at "en") (mulL (by (first | lia | omega)) (by (first | lia | omega)))) (by walk_at "en") ?_ (by (first | lia | omega))) (by walk_at "en") Cmp.eqF) (fun t => ?_) (fun t => Ex.nil (Ex.nil ?_))
        · have : ((2 : Int) * (c : Int)).natAbs ≤ 1000000 := by (first | lia | omega)
          exact Nat.lt_of_le_of_lt this (by decide +kernel)
        · rw [told_eq (by (first | lia | omega)) (by (first | lia | omega)) (by (first | lia | omega)) (by (first | lia | omega))] at t
          have t := of_decide_eq_true t
          subst t
          refine Ex.assign ok (p := gapV ((n : Int) - 2 * (c : Nat), (n : Int) - (c : Nat))) (E.tup ok (.cons (E.sub (by walk_at "en") (E.mulII E.cInt (by walk_at "en") (mulL (by (first | lia | omega)) (by (first | lia | omega))))) (.cons (E.sub (by walk_at "en") (by walk_at "en")) .nil)) rfl (by decide)) (by simp [Safe, Safes]) (by walk_at "ld") (Ex.nil (Ex.nil ?_))
          show ∀ x b, _ → _
          rw [if_pos (by (first | lia | omega))]; walk_at "sb"
        · rw [told_eq (by (first | lia | omega)) (by (first | lia | omega)) (by (first | lia | omega)) (by (first | lia | omega))] at t
          have t := of_decide_eq_false t
          show ∀ x b, _ → _
          have : (q < c + 1) = (q < c) := by
            apply propext; (first | lia | omega)
          simp only [this]
          walk_at "sb"
      · rw [if_pos (by (first | lia | omega))]
        refine Ex.append ok (by walk_at "lk") (by walk_at "en") (by simp [Safe, Safes]) (by simp; (first | lia | omega)) rfl (by decide +kernel) (fun Q' h t => TP.Call_method t) ?_
        refine Ex.matWeak (M := (Str.ofString "matcher")) (d := d) (C := aSM) (P' := MatB X.prog X.w ms) (by walk_at "lk") (fun F od x => ⟨_, x⟩) (Ex.nil ?_)
        show ∀ x b, _ → _
        have e9 : (rss.take (i + 1)).map (fun r => gapV (gp r ms)) = (rss.take i).map (fun r => gapV (gp r ms)) ++ [gapV ((n : Int) - 2 * (q : Nat), (n : Int) - (q : Nat))] := by
          rw [ht, List.map_append]
          simp only [List.map_cons, List.map_nil, gp, hq, hn]
        rw [e9]
        walk_at "sb"
    · rw [List.length_map, List.take_length]
      refine Ex.freeze ok hD (x := (Str.ofString "gaps")) (a := a) (by walk_at "lk") ?_
      refine Ex.ret (p := .list (rss.map fun r => gapV (gp r ms))) (by walk_at "en") (Safes.all fun x hx => ?_) ⟨rfl, (Str.ofString "matcher"), by walk_at "lk"⟩
      obtain ⟨r, _, rfl⟩ := List.mem_map.mp hx
      simp [Safe, Safes]
end Mine

end
section
open PySem PySem.W PyProof.Rows PySem.Calls
set_option Elab.async false
set_option linter.unusedVariables false
set_option maxRecDepth 100000
set_option maxHeartbeats 4000000
namespace Mine
section
variable {prog : Program} {w : World} {A : Around} {h h' h₀ : Heap} {env : Env} {D : List Addr}
theorem p_part0 {Q : Value → Heap → Prop} (q : Q .none h) : TP prog w A (evalPart none env) h Q := TP.of (t_part0 q)
theorem p_part1 {e : PySem.Expr} {Q : Value → Heap → Prop} (t : TP prog w A (eval e env) h Q) : TP prog w A (evalPart (some e) env) h Q := t
theorem p_SliceG {value : PySem.Expr} {lower upper : Option PySem.Expr} {p pos : Pos} {Q : Value → Heap → Prop}
    (x : TP prog w A (eval value env) h fun o h₁ => TP prog w A (evalPart lower env) h₁ fun vl h₂ => TP prog w A (evalPart upper env) h₂ fun vu h₃ => ∃ a vs lo hi, o = .ref a ∧ h₃.IsList a (List.toArray vs) ∧ vs.length ≤ sizeLine ∧ IsPart vl lo ∧ IsPart vu hi ∧ ∀ r h' ob, Sub [] h₃ h' → h₃.get? r = none → h'.get? r = some ob → IsLst ob (slicePick vs.toArray lo hi none).toList → Q (.ref r) h') :
    TP prog w A (eval (.Subscript value (.Slice lower upper none p) pos) env) h Q := fun s es hp => by
  rw [eval_Subscript]
  refine wpAny_bind (wpAny_mono (x s es hp) ?_ fun _ _ z => z)
  rintro o s₁ ⟨h₁, t₁, rfl, hp, y⟩
  refine wpAny_bind (wpAny_holding (wpAny_Slice (wpAny_mono (y _ rfl hp) ?_ fun _ _ z => z)))
  rintro vl s₂ ⟨h₂, t₂, rfl, hp, y⟩
  refine wpAny_mono (y _ rfl hp) ?_ fun _ _ z => z
  rintro vu s₃ ⟨h₃, t₃, rfl, hp, a, vs, lo, hi, rfl, hl, hz, p1, p2, q⟩
  rw [evalPart_none]
  refine wpAny_pure (wpAny_bind (wpAny_standAt ?_))
  have hT : (⟨h₃.push { cls := .type "slice", data := .fields #[vl, vu, .none] }, s.gens, s.drawn, t₃, s.os⟩ : Shared).TypeIs (.ref a) "list" := (hl.push _).typeIs
  have got : wpAny (model prog w) A (getItem (.ref a) (.ref h₃.objs.size)) (fun r s' => ∃ h' tk, s' = { s with heap := h', toks := tk } ∧ 0 < tk ∧ Q r h') (fun _ _ => False) ⟨h₃.push { cls := .type "slice", data := .fields #[vl, vu, .none] }, s.gens, s.drawn, t₃, s.os⟩ := by
    refine wpAny_getItem_list_slice (hl.push _) (Heap.IsSliceOf.new ..) p1 p2 .none (by first | walk_at "mem" | simp) ?_ (by simpa using hz)
    rw [Heap.size_push]
    refine ⟨_, t₃, rfl, hp, q _ _ _ (fun b o _ eb => Heap.get?_push_of_some _ (Heap.get?_push_of_some _ eb)) ?_ ?_ ⟨0, by rw [Array.toArray_toList]⟩⟩
    · cases e : h₃.get? (h₃.objs.size + 1) with
      | none => rfl
      | some o => exact absurd (Heap.lt_size e) (Nat.not_lt.mpr (Nat.le_succ _))
    · have := get_push_self (h₃.push { cls := .type "slice", data := .fields #[vl, vu, .none] }) { cls := .type "list", data := .seq (slicePick vs.toArray lo hi none) }
      rwa [Heap.size_push] at this
  have fin : wpAny (model prog w) A (operate [.ref h₃.objs.size, .ref a] (getItem (.ref a) (.ref h₃.objs.size))) (fun r s₃ => wpAny (model prog w) A (letTemporaryGo value (.ref a) r >>= fun _ => pure r) (fun a s' => ∃ h' tk, s' = { s with heap := h', toks := tk } ∧ 0 < tk ∧ Q a h') (fun _ _ => False) s₃) (fun _ _ => False) ⟨h₃.push { cls := .type "slice", data := .fields #[vl, vu, .none] }, s.gens, s.drawn, t₃, s.os⟩ :=
    wpAny_operating (wpAny_mono got (fun r s₃ h₃ => wpAny_bind (wpAny_letTemporaryGo (wpAny_pure h₃))) fun _ _ x => x)
  refine wpAny_bind ?_
  rw [getitemInPython_of_ne hT.not_modules]
  refine wpAny_bind (wpAny_specialOf hT PySem.F.slot_list_getitem.lookup ?_)
  exact wpAny_pure (wpAny_bind fin)
end
section
variable {X : Fm} {Γ Γ' Γc : Ctx} {F F' : Store} {m : Str → Option Value} {l : List (Addr × Obj)} {h h' : Heap} {Q : Out → Prop} {rest ss : List Stmt} {s : Scope} {cn : List Str}
theorem N.slice (ok : FmOk X) {value ea eb : PySem.Expr} {p pos : Pos} {pv : PV} {xs : List PV} {a b : Nat} (ev : E X Γ value pv) (e1 : E X Γ ea (.int a)) (e2 : E X Γ eb (.int b)) (il : IsL pv xs) (ha : a ≤ xs.length) (hab : a ≤ b) (hz : xs.length ≤ 1000000) : N X Γ (.Subscript value (.Slice (some ea) (some eb) none p) pos) (.list ((xs.drop a).take (b - a))) := fun F m l h H =>
  p_SliceG ((ev F m l h H).mono fun o h₁ ⟨F₁, le₁, H₁, r₁⟩ => p_part1 ((e1 F₁ m l h₁ H₁).mono fun vl h₂ ⟨F₂, le₂, H₂, r₂⟩ => p_part1 ((e2 F₂ m l h₂ H₂).mono fun vu h₃ ⟨F₃, le₃, H₃, r₃⟩ => by
    obtain ⟨ad, vs, rfl, hl, rs⟩ := H₃.lst ok il (r₁.mono (fun a o e => le₃ a o (le₂ a o e)) fun _ _ e => e)
    · obtain ⟨t, rfl⟩ := r₂.i
      · obtain ⟨u, rfl⟩ := r₃.i
        have len := rs.length
        refine ⟨ad, vs, some (a : Int), some (b : Int), rfl, hl, by rw [sizeLine_eq]; (first | lia | omega), .int _ _, .int _ _, fun r h' ob sb n g lt => ⟨F₃, r, ob, fun a o e => le₃ a o (le₂ a o (le₁ a o e)), H₃.sub sb, rfl, g, H₃.fresh n, .list lt ?_⟩⟩
        rw [pick_run' vs a b (by (first | lia | omega)) hab]
        exact (rs.drop a).take (b - a))))
theorem B.plain {e : PySem.Expr} {b : Bool} (ee : E X Γ e (.bool b)) (he : ∀ whole, isTrue e X.env whole = (do let v ← whole; PySem.standAt e.pos; PySem.holding [v] (truthy v)) := by intro _; rfl) : B X Γ e b := fun F m l h H =>
  p_isTrue_plain ((ee F m l h H).mono fun v h₁ ⟨F₁, le₁, H₁, r₁⟩ => by
    obtain rfl := r₁.b
    exact TP.of (T.truthy_bool ⟨F₁, le₁, H₁, rfl⟩)) (he _)
theorem Cmp.eqNil (ok : FmOk X) {p : PV} {xs : List PV} (il : IsL p xs) : Cmp X .Eq p (.list []) (decide (xs.length = 0)) := fun Γ F m l h u v H ru rv => by
  obtain ⟨a, vs, rfl, hl, rs⟩ := H.lst ok il ru
  obtain ⟨b, us, rfl, hl', rs'⟩ := H.lst ok (.list []) rv
  cases rs'
  have len := rs.length
  have hu := ok.units
  refine TP.of fun s es => ?_
  subst es
  by_cases c : xs.length = 0
  · have hv : vs = [] := List.length_eq_zero_iff.mp (by (first | lia | omega))
    subst hv
    refine PySem.SeqAt.eq_listAt (e := fun _ => true) hl hl' rfl (by (first | lia | omega)) (fun j h1 => by simp at h1) ⟨s.heap, s.toks, rfl, F, fun _ _ e => e, H, ?_⟩
    rw [decide_eq_true c]
    exact .bool _
  · refine PySem.SeqAt.eq_list_lengthsAt hl hl' (by simp only [List.size_toArray, List.length_nil, bne_iff_ne, ne_eq]; (first | lia | omega)) (by (first | lia | omega)) ⟨s.heap, s.toks, rfl, F, fun _ _ e => e, H, ?_⟩
    rw [decide_eq_false c]
    exact .bool _
theorem EM.callM (ok : FmOk X) {f M : Str} {pf pm pos : Pos} {fa : Addr} {es : List PySem.Expr} {ps : List PV} {r : PV} {d : Addr} {P P' : Store → Obj → Prop} {rd : Nat} (ef : E X Γ (.Name f pf) (.raw (.ref fa))) (hx : Γ.lookup M = some (.mat d aSM P)) (hdb : (M == ("__debug__" : Str)) = false) (ea : EA X Γ es ps) (hs : Safes ps) (hk : keepIn X.K (.ref fa) = true) (hrd : rd + 1 ≤ X.rd) (hst : noStars (.Name M pm :: es) = true)
    (k : ∀ {h : Heap} {F : Store} {vs : List Value} {lD : List (Addr × Obj)}, X.A.handled = none → X.A.depth + 21 + rd < recursionLimit → X.A.units + 30 + 10 * rd < cLine → (∀ h', Sub (lD.map (·.1)) h h' → Gr X.K h') → (∀ a o, F a o → h.get? a = some o ∧ a ∉ lD.map (·.1)) → (∀ p ∈ lD, h.get? p.1 = some p.2) → (lD.map (·.1)).Nodup →
      Args X.prog X.w F lD vs (.mat d aSM P :: ps.map .fz) → TCP X.prog X.w X.A (.call (.ref fa) ⟨vs, []⟩) h (Ret X.prog X.w F h (lD.map (·.1)) fun p Γ => p = r ∧ ∃ M, Γ.lookup M = some (.mat d aSM P'))) :
    EM X Γ (.Call (.Name f pf) (.Name M pm :: es) [] pos) r ((M, .mat d aSM P') :: Γ) := fun F m l h H => by
  refine TP.Call_Name ((ef F m l h H).mono fun fv h₁ ⟨F₁, le₁, H₁, r₁⟩ => ?_)
  obtain rfl := r₁.r
  refine TP.callWith ?_ hst
  obtain ⟨v, lk, x, od, rfl, fx, hd, ⟨es', n, rfl⟩, hp⟩ := H₁.nm M _ hx
  refine look_eval ok H₁ lk hdb ?_
  refine (ea.t H₁).mono fun vs h₂ ⟨F₂, le₂, H₂, r₂⟩ => ⟨Keeps.frag (H₂.gr ok).k hk, ?_⟩
  have r3 := ok.room
  have r4 := ok.units
  have gd := H₂.s.led _ hd
  refine TP.call ((k (h := h₂) (F := F₂) (vs := .ref x :: vs) (lD := [(d, dictOf es' n)]) ok.hh (by (first | lia | omega)) (by (first | lia | omega)) (fun h' sb => H₂.grOff ok hd sb) (fun a o e => ⟨(H₂.fz a o e).1, fun z => (H₂.fz a o e).2.2 ?_⟩) (by simpa using gd) (by first | walk_at "mem" | simp) ?_).mono ?_)
  · obtain rfl : a = d := by simpa using z
    exact List.mem_map_of_mem (f := (·.1)) hd
  · exact .mat (le₂ _ _ fx) (.head _) ⟨es', n, rfl⟩ (fun F' le => hp F' fun a o e nv => le a o (le₂ a o e) nv) (by
      intro b hb
      obtain ⟨p, _, rfl⟩ := List.mem_map.mp hb
      simp [Bind.addrs]) (r₂.args hs)
  rintro v h₃ ⟨⟨p, Γ3, F₃, le₃, new₃, rp, ⟨rfl, M3, hM3⟩, mats⟩, sb⟩
  obtain ⟨od', gd', ⟨es2, n2, rfl⟩, hp'⟩ := mats _ _ _ _ hM3
  obtain ⟨l', el, H₄⟩ := H₂.turnC (b' := .mat d aSM fun _ _ => True) ok hx (.head _) (fun _ q => q) lk hd dict_nc dict_nc sb gd' fun l' hl' _ => ⟨x, _, rfl, le₂ _ _ fx, hl', ⟨es2, n2, rfl⟩, fun _ _ => trivial⟩
  have H₅ : Holds X ((M, .mat d aSM fun _ _ => True) :: Γ) F₃ m l' h₃ := H₄.grow le₃ (fun a o e => by
    obtain ⟨e1, e2, e3⟩ := new₃ a o e
    rcases e3 with e | e3
    · exact H₄.fz a o e
    · have f := H₂.s.fresh e3
      exact ⟨e1, f.2.1, el ▸ f.2.2⟩) fun a o e => by
    obtain ⟨e1, e2, e3⟩ := new₃ a o e
    rcases e3 with e | e3
    · exact H₄.fn a o e
    · exact .inr (H₂.s.fresh e3).1
  have H₆ : Holds X ((M, .mat d aSM P') :: (M, .mat d aSM fun _ _ => True) :: Γ) F₃ m l' h₃ := H₅.rebind (b' := .mat d aSM P') look_here (fun _ q => q) fun v ⟨x', od2, e1, e2, e3, e4, e5⟩ => by
    have := H₅.s.led _ e3
    rw [gd'] at this
    obtain rfl := Option.some.inj this
    exact ⟨x', _, e1, e2, e3, e4, fun F2 q => hp' F2 q⟩
  refine ⟨F₃, m, l', fun a o e => le₃ a o (le₂ a o (le₁ a o e)), H₆.weak fun y c e => ?_, rp.mono (fun _ _ e => e) fun _ _ e => e.elim⟩
  by_cases hy : y = M
  · subst hy; rw [look_here] at e ⊢; exact e
  · rw [look_next hy rfl] at e ⊢
    rw [look_next hy rfl]; exact e
end
end Mine

end
section
open PySem PySem.W PyProof.Rows PySem.Calls
set_option Elab.async false
set_option linter.unusedVariables false
set_option maxRecDepth 100000
set_option maxHeartbeats 4000000
namespace Mine
local macro_rules | `(tactic| walk_at "cc") => `(tactic| first | with_reducible exact cctx_nil | (with_reducible refine cctx_cons (by walk_at "lk") (by kernel_rfl!) rfl ?_; walk_at "cc"))
theorem fn_found (P : Params) : FnOkC (frag P) at_law_found fdOf_law_found (bodyN (stN pwBody 10)) :=
  ⟨⟨obOf_law_found P, by kernel_rfl!, rfl⟩, by kernel_rfl!, by kernel_rfl!, by kernel_rfl!, by kernel_rfl!, by kernel_rfl!, by kernel_rfl!, by kernel_rfl!, by kernel_rfl!⟩
noncomputable def testE : Stmt → PySem.Expr
  | .If t _ _ _ => t
  | _ => .Constant .none 0 ⟨0, 0, 0, 0⟩
noncomputable def cmpLeft : PySem.Expr → PySem.Expr
  | .Compare a _ _ _ => a
  | e => e
noncomputable abbrev tabV (L : List (List Int)) (c : List Int) : PV := .list (L.map fun r => gapV (gp r c))
noncomputable def stays (L : List (List Int)) (asked : List Int) (p q : Int) (k : Nat) : Bool := (List.range 3).all fun i => !differ (gp (L.getD (i + 1) []) asked) (gp (L.getD k []) (L.getD (i + 1) [])) p q
noncomputable def shareOk (L : List (List Int)) (asked : List Int) (p q : Int) (k : Nat) : Bool :=
  Float64.cmp (ratioF (qm asked [] (L.getD k [])) ((L.getD k []).length + asked.length)) (Float64.ofFrac (decide (p < 0) != decide (q < 0)) p.natAbs q.natAbs) == some .gt || Float64.cmp (ratioF (qm asked [] (L.getD k [])) ((L.getD k []).length + asked.length)) (Float64.ofFrac (decide (p < 0) != decide (q < 0)) p.natAbs q.natAbs) == some .eq
noncomputable abbrev hitV (L : List (List Int)) (asked : List Int) (k : Nat) : PV := .tup [.int k, .flt (ratioF (qm asked [] (L.getD k [])) ((L.getD k []).length + asked.length)), .bool true]
noncomputable abbrev foundV (L : List (List Int)) (asked : List Int) (p q : Int) (n : Nat) : List PV := ((List.range n).filter fun k => stays L asked p q k && shareOk L asked p q k).map (hitV L asked)
theorem gp_small {r c : List Int} (hr : r.length < 150) (hc : c.length < 150) : 0 ≤ (gp r c).1 ∧ (gp r c).1 < 1000 ∧ 0 ≤ (gp r c).2 ∧ (gp r c).2 < 1000 := by
  have q1 := qm_le c r []
  have q2 := qm_leb r c
  unfold gp
  simp only
  (first | lia | omega)
theorem law_found {prog : Program} {w : World} {A : Around} {h : Heap} {F : Store} {vs : List Value} {lD : List (Addr × Obj)} {d : Addr} {L : List (List Int)} {asked : List Int} {p q : Int} (hL : L.length = 8) (hr : ∀ r ∈ L, r.length < 150) (hm : asked.length < 150) (hne : ∀ i, i < 3 → L.getD (i + 1) [] ≠ []) (hp : 0 ≤ p ∧ p < 100) (hq : 0 < q ∧ q < 100) (hh : A.handled = none) (room : A.depth + 22 < recursionLimit) (units : A.units + 40 < cLine)
    (G : ∀ h', Sub (lD.map (·.1)) h h' → Gr (frag w.params) h') (std : ∀ a o, F a o → h.get? a = some o ∧ a ∉ lD.map (·.1)) (hl : ∀ p ∈ lD, h.get? p.1 = some p.2) (nd : (lD.map (·.1)).Nodup)
    (args : Args prog w F lD vs [.mat d aSM (MatE prog w), .fz (.list (L.map fun r => .list (r.map .int))), .fz (.list ((List.range 3).map fun i => tabV L (L.getD (i + 1) []))), .fz (.list (asked.map .int)), .fz (.int p), .fz (.int q)]) :
    TCP prog w A (.call (.ref at_law_found) ⟨vs, []⟩) h (Ret prog w F h (lD.map (·.1)) fun r Γ => r = .list (foundV L asked p q 8) ∧ ∃ M, Γ.lookup M = some (.mat d aSM (MatE prog w))) := by
  refine fn_run (ns := [(Str.ofString "matcher"), (Str.ofString "lists"), (Str.ofString "table"), (Str.ofString "asked"), (Str.ofString "p"), (Str.ofString "q")]) 1 _ (fn_found w.params) hh room units G std hl nd ?_ (by decide +kernel) ?_ (by kernel_rfl!) args ?_
  · obtain ⟨v1, v2, v3, v4, v5, v6, rfl⟩ : ∃ v1 v2 v3 v4 v5 v6, vs = [v1, v2, v3, v4, v5, v6] := by
      cases args with | mat _ _ _ _ _ a => cases a with | fz _ a => cases a with | fz _ a => cases a with | fz _ a => cases a with | fz _ a => cases a with | fz _ a => cases a; exact ⟨_, _, _, _, _, _, rfl⟩
    kernel_rfl!
  · cases args with | mat _ _ _ _ _ a => cases a with | fz _ a => cases a with | fz _ a => cases a with | fz _ a => cases a with | fz _ a => cases a with | fz _ a => cases a; rfl
  · intro X ok sc cnew e1 e2 e3 e4 e5
    have hK : X.K = frag X.w.params := by rw [e3, e2]
    subst e1 e2
    show Ex X [((Str.ofString "matcher"), .mat d aSM (MatE X.prog X.w)), ((Str.ofString "lists"), .fz (.list (L.map fun r => .list (r.map .int)))), ((Str.ofString "table"), .fz (.list ((List.range 3).map fun i => tabV L (L.getD (i + 1) [])))), ((Str.ofString "asked"), .fz (.list (asked.map .int))), ((Str.ofString "p"), .fz (.int p)), ((Str.ofString "q"), .fz (.int q))] _ _
    have sL : Safes (L.map fun r => PV.list (r.map .int)) := .all fun x hx => by
      obtain ⟨r, _, rfl⟩ := List.mem_map.mp hx
      exact Safes.ints r
    have rL : ∀ k, k < 8 → (L.getD k []).length < 150 := fun k hk => by
      have : L.getD k [] = L[k] := by simp [hL, hk]
      rw [this]; exact hr _ (List.getElem_mem _)
    have cut : ((L.map fun r => PV.list (r.map .int)).drop 1).take (4 - 1) = ((List.range 3).map fun i => L.getD (i + 1) []).map fun r => .list (r.map .int) := by
      rw [← List.map_drop, ← List.map_take]
      congr 1
      refine List.ext_getElem (by simp [hL]) fun i h1 h2 => ?_
      simp at h1 h2
      simp [hL, show i + 1 < 8 by (first | lia | omega), Nat.add_comm]
    refine Ex.assignM ok (p := .list (((List.range 3).map fun i => L.getD (i + 1) []).map fun r => gapV (gp r asked))) (EM.callM (rd := 0) (P := MatE X.prog X.w) (P' := MatB X.prog X.w asked) (ps := [.list (((List.range 3).map fun i => L.getD (i + 1) []).map fun r => .list (r.map .int)), .list (asked.map .int)]) ok (E.global (v := .ref at_law_gaps) ok (by rw [hK]; kernel_rfl!) ((sc.kind _).trans (by kernel_rfl!)) (by decide +kernel)) (by walk_at "lk") (by decide +kernel) (.cons (E.eq (by rw [cut]) (E.ofN (N.slice ok (by walk_at "en") E.cInt E.cInt (.list _) (by simp [hL]) (by (first | lia | omega)) (by simp [hL])))) (.cons (by walk_at "en") .nil)) ?_ (by rw [hK]; kernel_rfl!) (by (first | lia | omega)) rfl ?_) (Sto.cell sc cnew (by kernel_rfl!) (by kernel_rfl!)) ?_
    · refine ⟨?_, Safes.ints asked, trivial⟩
      refine Safes.all fun x hx => ?_
      obtain ⟨r, _, rfl⟩ := List.mem_map.mp hx
      exact Safes.ints r
    · intro h F vs lD a1 a2 a3 a4 a5 a6 a7 a8
      refine law_gaps (fun r hr' => ?_) hm (.inr fun r hr' => ?_) (by first | walk_at "mem" | simp) a1 (by (first | lia | omega)) (by (first | lia | omega)) (hK ▸ a4) a5 a6 a7 a8
      · obtain ⟨i, hi, rfl⟩ := List.mem_map.mp hr'
        have := List.mem_range.mp hi
        exact rL _ (by (first | lia | omega))
      · obtain ⟨i, hi, rfl⟩ := List.mem_map.mp hr'
        exact hne _ (List.mem_range.mp hi)
    refine Ex.assignN ok (p := .list []) (N.disp ok .nil rfl (by decide)) (by simp [Safe, Safes]) (by walk_at "ld") fun a hD => ?_
    generalize hgs : ((List.range 3).map fun i => L.getD (i + 1) []).map (fun r => gapV (gp r asked)) = gs
    generalize htb : (List.range 3).map (fun i => tabV L (L.getD (i + 1) [])) = tb
    have gAt : ∀ i, i < 3 → gs[i]? = some (gapV (gp (L.getD (i + 1) []) asked)) := fun i hi => by rw [← hgs]; simp [hi]
    have tAt : ∀ i, i < 3 → tb[i]? = some (tabV L (L.getD (i + 1) [])) := fun i hi => by rw [← htb]; simp [hi]
    have gLen : gs.length = 3 := by rw [← hgs]; simp
    have tLen : tb.length = 3 := by rw [← htb]; simp
    refine Ex.forIn ok (n := 8) (P := fun k => .int k) (It.range1 ok (E.builtin ok (by rw [hK]; kernel_rfl!) (by kernel_rfl!) ((sc.kind _).trans (by kernel_rfl!)) (by decide +kernel) (by decide +kernel)) (E.eq (x := .int ((L.map fun r => PV.list (r.map .int)).length : Nat)) (by rw [List.length_map, hL]) (E.len ok (E.builtin ok (by rw [hK]; kernel_rfl!) (by kernel_rfl!) ((sc.kind _).trans (by kernel_rfl!)) (by decide +kernel) (by decide +kernel)) (by walk_at "en") (.list _) (by simp [hL]) rfl)) (by (first | lia | omega)) rfl)
      (fun k => [((Str.ofString "found"), .own a (.list (foundV L asked p q k))), ((Str.ofString "gaps"), .fz (.list gs)), ((Str.ofString "matcher"), .mat d aSM (MatB X.prog X.w asked)), ((Str.ofString "lists"), .fz (.list (L.map fun r => .list (r.map .int)))), ((Str.ofString "table"), .fz (.list tb)), ((Str.ofString "asked"), .fz (.list (asked.map .int))), ((Str.ofString "p"), .fz (.int p)), ((Str.ofString "q"), .fz (.int q))])
      (fun k => [((Str.ofString "k"), .fz (.int k)), ((Str.ofString "found"), .own a (.list (foundV L asked p q k))), ((Str.ofString "gaps"), .fz (.list gs)), ((Str.ofString "matcher"), .mat d aSM (MatB X.prog X.w asked)), ((Str.ofString "lists"), .fz (.list (L.map fun r => .list (r.map .int)))), ((Str.ofString "table"), .fz (.list tb)), ((Str.ofString "asked"), .fz (.list (asked.map .int))), ((Str.ofString "p"), .fz (.int p)), ((Str.ofString "q"), .fz (.int q))]) ?_ (fun k _ => As.name ok (Sto.cell sc cnew (by kernel_rfl!) (by kernel_rfl!))) (fun k hk => ?_) ?_
    · have z0 : foundV L asked p q 0 = [] := rfl
      rw [z0]
      walk_at "sb"
    · have rk := rL k hk
      have step : foundV L asked p q (k + 1) = foundV L asked p q k ++ (if (stays L asked p q k && shareOk L asked p q k) = true then [hitV L asked k] else []) := by
        show List.map _ (List.filter _ (List.range (k + 1))) = _
        rw [List.range_succ, List.filter_append, List.map_append]
        congr 1
        by_cases hb : (stays L asked p q k && shareOk L asked p q k) = true
        · rw [if_pos hb]; simp [List.filter_cons, hb]
        · rw [if_neg hb]
          have hb' : (stays L asked p q k && shareOk L asked p q k) = false := by simpa using hb
          simp [List.filter_cons, hb']
      have hcomp : E X [((Str.ofString "k"), .fz (.int k)), ((Str.ofString "found"), .own a (.list (foundV L asked p q k))), ((Str.ofString "gaps"), .fz (.list gs)), ((Str.ofString "matcher"), .mat d aSM (MatB X.prog X.w asked)), ((Str.ofString "lists"), .fz (.list (L.map fun r => .list (r.map .int)))), ((Str.ofString "table"), .fz (.list tb)), ((Str.ofString "asked"), .fz (.list (asked.map .int))), ((Str.ofString "p"), .fz (.int p)), ((Str.ofString "q"), .fz (.int q))] (cmpLeft (testE (stN (forBody (stN (bodyN (stN pwBody 10)) 2)) 0))) (.list (((List.range 3).filter fun i => differ (gp (L.getD (i + 1) []) asked) (gp (L.getD k []) (L.getD (i + 1) [])) p q).map fun i : Nat => PV.int (i : Int))) := by
        refine E.ofN (N.comp ok sc [((Str.ofString "gaps"), .fz (.list gs)), ((Str.ofString "table"), .fz (.list tb)), ((Str.ofString "k"), .fz (.int k)), ((Str.ofString "p"), .fz (.int p)), ((Str.ofString "q"), .fz (.int q))] (fun i => differ (gp (L.getD (i + 1) []) asked) (gp (L.getD k []) (L.getD (i + 1) [])) p q) (fun i => .int i) (by kernel_rfl!) (by kernel_rfl!) ?_ (It.toC (It.range1 (n := 3) ok (E.builtin ok (by rw [hK]; kernel_rfl!) (by kernel_rfl!) ((sc.kind _).trans (by kernel_rfl!)) (by decide +kernel) (by decide +kernel)) E.cInt (by (first | lia | omega)) rfl)) (by (first | lia | omega)) ?_ (fun i _ _ => by simp [Safe]))
        · exact cctx_cons (b := .fz (.list gs)) (by walk_at "lk") (by kernel_rfl!) rfl (cctx_cons (b := .fz (.list tb)) (by walk_at "lk") (by kernel_rfl!) rfl (cctx_cons (b := .fz (.int k)) (by walk_at "lk") (by kernel_rfl!) rfl (cctx_cons (b := .fz (.int p)) (by walk_at "lk") (by kernel_rfl!) rfl (cctx_cons (b := .fz (.int q)) (by walk_at "lk") (by kernel_rfl!) rfl cctx_nil))))
        · intro X' ok' sc' top i hi
          have hK' : X'.K = frag X'.w.params := by rw [top.K, top.w, hK]
          refine ⟨[((Str.ofString "i"), .fz (.int i)), ((Str.ofString "gaps"), .fz (.list gs)), ((Str.ofString "table"), .fz (.list tb)), ((Str.ofString "k"), .fz (.int k)), ((Str.ofString "p"), .fz (.int p)), ((Str.ofString "q"), .fz (.int q))], ?_, ?_, AsL.name ok' ((sc'.kind _).trans (by kernel_rfl!)), TB.one (B.plain ?_), fun _ => by walk_at "en"⟩
          · intro x b e
            simp only [List.lookup_cons] at e
            repeat' split at e
            all_goals first | (cases e; rfl) | simp at e
          · walk_at "sb"
          · have r1 := rL (i + 1) (by (first | lia | omega))
            refine E.callF (rd := 0) ok' (E.global (v := .ref at_law_differ) ok' (by rw [hK']; kernel_rfl!) ((sc'.kind _).trans (by kernel_rfl!)) (by decide +kernel)) (.cons (E.subL ok' (x := gapV (gp (L.getD (i + 1) []) asked)) (by walk_at "en") (by walk_at "en") (.list _) (by (first | lia | omega)) (by (first | lia | omega)) (by simpa using gAt i hi)) (.cons (E.subL ok' (x := gapV (gp (L.getD k []) (L.getD (i + 1) []))) (E.subL ok' (x := tabV L (L.getD (i + 1) [])) (by walk_at "en") (by walk_at "en") (.list _) (by (first | lia | omega)) (by (first | lia | omega)) (by simpa using tAt i hi)) (by walk_at "en") (.list _) (by (first | lia | omega)) (by (first | lia | omega)) ?_) (.cons (by walk_at "en") (.cons (by walk_at "en") .nil)))) (by simp [Safe, Safes]) (by rw [hK']; kernel_rfl!) (by rw [top.rd]; (first | lia | omega)) (hK' ▸ law_differ (gp_small r1 hm) (gp_small rk r1) (by (first | lia | omega)) (by (first | lia | omega))) rfl
            have : k < L.length := by (first | lia | omega)
            simp [this]
      refine Ex.ite (c := stays L asked p q k) (B.eq ?_ (B.compare hcomp (E.ofN (N.disp ok .nil rfl (by decide))) (Cmp.eqNil ok (.list _)))) (fun c => ?_) (fun c => Ex.nil (Ex.nil ?_))
      · rw [List.length_map, stays]
        rw [Bool.eq_iff_iff, decide_eq_true_iff, List.length_eq_zero_iff, List.filter_eq_nil_iff, List.all_eq_true]
        simp
      · -- the share is asked
        refine Ex.matOpen (fun a => MatP X.prog X.w a (.lst asked)) (fun i F F' od x le => x.mono le) (M := (Str.ofString "matcher")) (d := d) (C := aSM) (by walk_at "lk") fun a0 => ?_
        have kL : k < (L.map fun r => PV.list (r.map .int)).length := by simp [hL, hk]
        have eL : (L.map fun r => PV.list (r.map .int))[(k : Int).toNat]? = some (.list ((L.getD k []).map .int)) := by
          have : k < L.length := by (first | lia | omega)
          simp [this]
        refine Ex.exprM ok (EM.set1 ok (ns := L.getD k []) (by walk_at "lk") hK (E.subL ok (by walk_at "en") (by walk_at "en") (.list _) (by (first | lia | omega)) (by (first | lia | omega)) eL) rfl (by decide +kernel) (by (first | lia | omega)) fun Q' h t => TP.Call_method t) ?_
        refine Ex.assignM ok (EM.quick ok (by walk_at "lk") hK (by decide +kernel) fun Q' h t => TP.Call_method t) (by walk_at "ld") ?_
        refine Ex.ite (c := shareOk L asked p q k) (B.compare (by walk_at "en") (E.divII (by walk_at "en") (by walk_at "en") ?_ (by (first | lia | omega))) Cmp.geF) (fun c2 => ?_) (fun c2 => ?_)
        · have : p.natAbs ≤ 1000000 := by (first | lia | omega)
          exact Nat.lt_of_le_of_lt this (by decide +kernel)
        · refine Ex.append ok (p := hitV L asked k) (by walk_at "lk") (E.tup ok (.cons (by walk_at "en") (.cons (by walk_at "en") (.cons (E.isinst (E.builtin ok (by rw [hK]; kernel_rfl!) (by kernel_rfl!) ((sc.kind _).trans (by kernel_rfl!)) (by decide +kernel) (by decide +kernel)) (by walk_at "en") (E.builtin ok (by rw [hK]; kernel_rfl!) (by kernel_rfl!) ((sc.kind _).trans (by kernel_rfl!)) (by decide +kernel) (by decide +kernel)) rfl) .nil))) rfl (by decide)) (by simp [Safe, Safes]) ?_ rfl (by decide +kernel) (fun Q' h t => TP.Call_method t) ?_
          · rw [List.length_map]
            exact Nat.le_trans (List.length_filter_le _ _) (by simp; (first | lia | omega))
          · refine Ex.matWeak (M := (Str.ofString "matcher")) (d := d) (C := aSM) (P := MatP X.prog X.w (.lst (L.getD k [])) (.lst asked)) (P' := MatB X.prog X.w asked) (by walk_at "lk") (fun F od x => ⟨_, x⟩) (Ex.nil (Ex.nil (Ex.nil ?_)))
            show ∀ x b, _ → _
            rw [step, c, c2, Bool.true_and, if_pos rfl]
            walk_at "sb"
        · refine Ex.matWeak (M := (Str.ofString "matcher")) (d := d) (C := aSM) (P := MatP X.prog X.w (.lst (L.getD k [])) (.lst asked)) (P' := MatB X.prog X.w asked) (by walk_at "lk") (fun F od x => ⟨_, x⟩) (Ex.nil (Ex.nil (Ex.nil ?_)))
          show ∀ x b, _ → _
          rw [step, c, c2, Bool.true_and, if_neg (by first | walk_at "mem" | simp), List.append_nil]
          walk_at "sb"
      · show ∀ x b, _ → _
        rw [step, c, Bool.false_and, if_neg (by first | walk_at "mem" | simp), List.append_nil]
        walk_at "sb"
    · refine Ex.matWeak (M := (Str.ofString "matcher")) (d := d) (C := aSM) (P := MatB X.prog X.w asked) (P' := MatE X.prog X.w) (by walk_at "lk") (fun F od x => let ⟨a, y⟩ := x; ⟨(a, .lst asked), y⟩) ?_
      refine Ex.freeze ok hD (x := (Str.ofString "found")) (a := a) (by walk_at "lk") ?_
      refine Ex.ret (p := .list (foundV L asked p q 8)) (by walk_at "en") (Safes.all fun x hx => ?_) ⟨rfl, (Str.ofString "matcher"), by walk_at "lk"⟩
      obtain ⟨r, _, rfl⟩ := List.mem_map.mp hx
      simp [Safe, Safes]
end Mine

end
local macro_rules | `(tactic| walk_at "cc") => `(tactic| first | with_reducible exact Mine.cctx_nil | (with_reducible refine Mine.cctx_cons (by walk_at "lk") (by kernel_rfl!) rfl ?_; walk_at "cc"))
section
open PySem PySem.W PyProof.Rows PySem.Calls
set_option Elab.async false
set_option linter.unusedVariables false
set_option maxRecDepth 100000
set_option maxHeartbeats 4000000
namespace Mine
section
variable {X : Fm} {Γ Γ' Γc : Ctx} {F F' : Store} {m : Str → Option Value} {l : List (Addr × Obj)} {h h' : Heap} {Q : Out → Prop} {rest ss : List Stmt} {s : Scope} {cn : List Str}
inductive NA (X : Fm) (Γ : Ctx) : List PySem.Expr → List (List PV) → Prop
  | nil : NA X Γ [] []
  | cons {e : PySem.Expr} {xs : List PV} {es : List PySem.Expr} {xss : List (List PV)} : N X Γ e (.list xs) → Safes xs → NA X Γ es xss → NA X Γ (e :: es) (xs :: xss)
theorem NA.t (ok : FmOk X) {es : List PySem.Expr} {xss : List (List PV)} (x : NA X Γ es xss) : ∀ {F m l h}, Holds X Γ F m l h → TPArgs X.prog X.w X.A X.env es h fun vs h' => ∃ (F' : Store) (ex : List (Addr × Obj)) (as : List Addr), (∀ a o, F a o → F' a o) ∧ Holds X Γ F' m (l ++ ex) h' ∧ vs = as.map .ref ∧ as = ex.map (·.1) ∧ Nest X.prog X.w F' X.XR ex as xss := by
  induction x with
  | nil => exact fun {F m l h} H => ⟨F, [], [], fun _ _ e => e, by simpa using H, rfl, rfl, .nil⟩
  | @cons e xs es xss n1 s1 _ ih =>
    intro F m l h H
    refine (n1 F m l h H).mono ?_
    rintro v h₁ ⟨F₁, a, o, le₁, H₁, rfl, ho, fr, oR⟩
    cases oR with
    | list l1 r1 =>
      refine (ih (H₁.track ok fr ho)).mono ?_
      rintro vs h₂ ⟨F₂, ex, as, le₂, H₂, rfl, rfl, ns⟩
      refine ⟨F₂, (a, o) :: ex, a :: ex.map (·.1), fun b p e => le₂ b p (le₁ b p e), by simpa using H₂, rfl, rfl, ?_⟩
      exact .cons (.head _) l1 ((r1.safe s1).mono le₂ fun _ _ e => e) (ns.mono (fun _ _ e => e) (fun _ _ e => e) fun b p _ q => .tail _ q)
theorem Nest.length {prog : Program} {w : World} {F R : Store} {l : List (Addr × Obj)} {as : List Addr} {xss : List (List PV)} (x : Nest prog w F R l as xss) : as.length = xss.length := by
  induction x with
  | nil => rfl
  | cons _ _ _ _ ih => simp [ih]
theorem Ex.nest (ok : FmOk X) {x : Str} {px pe pos : Pos} {es : List PySem.Expr} {xss : List (List PV)} (na : NA X Γ es xss) (hst : noStars es = true) (hz : xss.length ≤ 1000) (hx : Sto X x) (r : ∀ as : List Addr, (∀ a ∈ as, a ∉ X.D) → Ex X ((x, .nest as xss) :: Γ) rest Q)
    (hs : swapsWith (.List es pe) (some (.Name x px)) pos.line X.env = Pure.pure false := by rfl) : Ex X Γ (.Assign [.Name x px] (.List es pe) pos :: rest) Q := .cons fun F m l h H =>
  TP.Assign_Name (p_List ((na.t ok H).mono (by
    rintro vs h₁ ⟨F₁, ex, as, le₁, H₁, rfl, eas, ns⟩
    have len := ns.length
    refine ⟨by rw [sizeLine_eq, List.length_map]; (first | lia | omega), fun A h₂ o sb n g lt => ?_⟩
    have H₂ := H₁.freeze sb n g
    have nd := H₂.s.nodup
    rw [List.map_append, List.nodup_append] at nd
    have hD : ∀ a ∈ as, a ∉ X.D := fun a ha q => by
      rw [eas] at ha
      exact nd.2.2 a (H.s.dl a q) a ha rfl
    refine (H₂.put (b := .nest as xss) ok hx (fun l' kl => ⟨A, o, rfl, .inr ⟨rfl, rfl⟩, lt, by rw [eas]; exact nd.2.1, ?_⟩) fun a ha y c hy hc q => ?_).mono fun _ h₃ ⟨m', l', H₃, _⟩ => ⟨_, _, m', l', fun a o e => .inl (le₁ a o e), H₃, r as hD⟩
    · refine ns.mono (fun _ _ e => .inl e) (fun _ _ e => e) fun a oa ha hoa => ?_
      obtain ⟨o', q1, vs', q2⟩ := ns.mem ha
      have hin : (a, o') ∈ l ++ ex := List.mem_append_right _ q1
      have e1 := H₂.s.one (List.mem_append_right _ hoa) hin
      subst e1
      rcases kl a oa hin with ⟨u, q⟩ | q
      · obtain ⟨nn, rfl⟩ := q2; cases q
      · exact q
    · have ha' : a ∈ ex.map (·.1) := eas ▸ ha
      obtain ⟨v, lk, bo⟩ := H.nm y c hc
      obtain ⟨o', q1, _⟩ := bo.mem q
      exact nd.2.2 a (List.mem_map_of_mem (f := (·.1)) q1) a ha' rfl)) hst) hs
theorem Nest.get {prog : Program} {w : World} {F R : Store} {l : List (Addr × Obj)} {as : List Addr} {xss : List (List PV)} (x : Nest prog w F R l as xss) {i : Nat} {xs : List PV} (hx : xss[i]? = some xs) : ∃ a o vs, as[i]? = some a ∧ (a, o) ∈ l ∧ IsLst o vs ∧ Reps prog w F R vs xs := by
  induction x generalizing i with
  | nil => simp at hx
  | cons h1 h2 h3 _ ih =>
    cases i with
    | zero => simp at hx; subst hx; exact ⟨_, _, _, rfl, h1, h2, h3⟩
    | succ i => exact ih (by simpa using hx)
theorem Nest.set {prog : Program} {w : World} {F R : Store} {l l' : List (Addr × Obj)} {as : List Addr} {xss : List (List PV)} (x : Nest prog w F R l as xss) {i : Nat} {a : Addr} {o' : Obj} {vs' : List Value} {xs' : List PV} (nd : as.Nodup) (hi : as[i]? = some a) (h1 : (a, o') ∈ l') (h2 : IsLst o' vs') (h3 : Reps prog w F R vs' xs') (hl : ∀ c oc, (c, oc) ∈ l → c ≠ a → (c, oc) ∈ l') : Nest prog w F R l' as (xss.set i xs') := by
  induction x generalizing i with
  | nil => simp at hi
  | @cons b ob vs xs as xss q1 q2 q3 q4 ih =>
    rw [List.nodup_cons] at nd
    cases i with
    | zero =>
      simp at hi; subst hi
      refine .cons h1 h2 h3 (q4.mono (fun _ _ e => e) (fun _ _ e => e) fun c oc hc hm => hl c oc hm fun z => nd.1 (z ▸ hc))
    | succ i =>
      have hi' : as[i]? = some a := by simpa using hi
      have ne : b ≠ a := fun z => nd.1 (z ▸ List.mem_of_getElem? hi')
      exact .cons (hl _ _ q1 ne) q2 q3 (ih nd.2 hi')
theorem Ex.nestAppend (ok : FmOk X) {pl : Sem Bool} {x : Str} {px ps pa pc pos : Pos} {idx e : PySem.Expr} {as : List Addr} {xss : List (List PV)} {xs : List PV} {i : Nat} {p : PV} (hx : Γ.lookup x = some (.nest as xss)) (hd : (x == ("__debug__" : Str)) = false) (ei : E X Γ idx (.int i)) (hi : xss[i]? = some xs) (hz : i < 1000) (ee : E X Γ e p) (hp : Safe p) (hsz : xs.length ≤ 1000000) (hst : noStars [e] = true)
    (he : ∀ Q' h, (TP X.prog X.w X.A (eval (.Subscript (.Name x px) idx ps) X.env) h fun ov h₁ => TP X.prog X.w X.A (getMethod ov "append" pl) h₁ fun fx h₂ => TP X.prog X.w X.A (PySem.callWith pc fx.1 fx.2 (backTo pc (starEach [e] X.env)) []) h₂ Q') → TP X.prog X.w X.A (eval (.Call (.Attribute (.Subscript (.Name x px) idx ps) "append" pa) [e] [] pc) X.env) h Q')
    (r : Ex X ((x, .nest as (xss.set i (xs ++ [p]))) :: Γ) rest Q) (hs : swapsWith (.Call (.Attribute (.Subscript (.Name x px) idx ps) "append" pa) [e] [] pc) none pos.line X.env = Pure.pure false := by rfl) (hsub : ∀ o i, subscripted idx false o i = operate [o, i] (getItem o i) := by intro _ _; rfl) : Ex X Γ (.Expr (.Call (.Attribute (.Subscript (.Name x px) idx ps) "append" pa) [e] [] pc) pos :: rest) Q := .cons fun F m l h H => by
  refine TP.Expr (he _ _ (p_SubListG ?_ hsub)) ok.e.inter hs
  obtain ⟨v, lk, A, oA, rfl, fA, lA, nd, ns⟩ := H.nm x _ hx
  refine look_eval ok H lk hd ?_
  refine (ei F m l h H).mono fun iv h₁ ⟨F₁, le₁, H₁, r₁⟩ => ?_
  · obtain ⟨t, rfl⟩ := r₁.i
    obtain ⟨a, o, vs, g1, g2, g3, g4⟩ := ns.get hi
    refine ⟨A, as.map .ref, i, t, .ref a, rfl, rfl, lA.isList (H₁.fz _ _ (le₁ _ _ fA)).1, by (first | lia | omega), by (first | lia | omega), by simp [g1], ?_⟩
    have g := H₁.s.led _ g2
    refine TP.of (t_getMethodB g g3.cls.1 g3.cls.2 PySem.F.plainAttrs_list PySem.F.slot_list_append PySem.F.type_list_append ?_)
    refine TP.callWith ((ee F₁ m l h₁ H₁).mono fun v h₂ ⟨F₂, le₂, H₂, r₂⟩ => ⟨Keeps.builtin, ?_⟩) hst
    have g4' : Reps X.prog X.w F₂ X.XR vs xs := g4.mono (fun a o e => le₂ a o (le₁ a o e)) fun _ _ e => e
    refine TP.of (t_append (H₂.s.led _ g2) g3 (by have := g4.length; rw [sizeLine_eq]; (first | lia | omega)) fun h₃ o₃ s₃ gg l₃ => ⟨(fun b q => by cases q), ?_⟩)
    have ha : a ∈ as := List.mem_of_getElem? g1
    obtain ⟨l', _, H₃⟩ := H₂.turnC (b' := .nest as (xss.set i (xs ++ [p]))) ok hx ha (fun _ q => q) lk g2 (fun u q => by obtain ⟨n, rfl⟩ := g3; cases q) (fun u q => by obtain ⟨n, rfl⟩ := l₃; cases q) s₃ gg fun l' q1 q2 => ⟨A, oA, rfl, le₂ _ _ (le₁ _ _ fA), lA, nd, (ns.mono (fun a o e => le₂ a o (le₁ a o e)) (fun _ _ e => e) fun _ _ _ q => q).set nd g1 q1 l₃ (g4'.append (.cons (r₂.noXR hp) .nil)) q2⟩
    exact ⟨_, F₂, m, l', fun a o e => le₂ a o (le₁ a o e), H₃, r⟩
theorem Ex.nestFreeze (ok : FmOk X) {x : Str} {as : List Addr} {xss : List (List PV)} (hD : ∀ a ∈ as, a ∉ X.D) (hx : Γ.lookup x = some (.nest as xss)) (r : Ex X ((x, .fz (.list (xss.map .list))) :: Γ) ss Q) : Ex X Γ ss Q := fun F m l h H => by
  obtain ⟨v, lk, A, oA, rfl, fA, lA, nd, ns⟩ := H.nm x _ hx
  have oneLst : ∀ {a o}, a ∈ as → (a, o) ∈ l → ∃ vs, IsLst o vs := fun {a o} ha hl => by
    obtain ⟨o', q1, q2⟩ := ns.mem ha
    rw [H.s.one hl q1]; exact q2
  have ncel : ∀ {c oc u}, (c, oc) ∈ l → IsCel oc u → c ∉ as := fun h1 h2 z => by
    obtain ⟨vs, n, rfl⟩ := oneLst z h1
    cases h2
  have keep : ∀ {c oc}, (c, oc) ∈ l → c ∉ as → (c, oc) ∈ l.filter (fun q => decide (q.1 ∉ as)) := fun h1 h2 => List.mem_filter.mpr ⟨h1, by simpa using h2⟩
  have lk1 : ∀ {y u}, Look X m l y u → Look X m (l.filter (fun q => decide (q.1 ∉ as))) y u := fun lk => lk.imp id fun ⟨c, oc, k1, k2, k3, k4⟩ => ⟨c, oc, k1, k2, k3.imp (fun q => keep q (ncel q k4)) id, k4⟩
  have new : ∀ {a o}, a ∈ as → (a, o) ∈ l → X.h₀.get? a = none := fun {a o} ha hl => (H.s.own _ hl).resolve_left (hD a ha)
  have HH : Holds X ((x, .fz (.list (xss.map .list))) :: Γ) (fun b p => F b p ∨ (b ∈ as ∧ (b, p) ∈ l)) m (l.filter (fun q => decide (q.1 ∉ as))) h := by
    refine { s := H.s.drop List.filter_sublist (fun d hd => ?_), fz := fun b q e => ?_, fn := fun b q e => e.elim (H.fn b q) fun e => .inr (new e.1 e.2), f0 := fun b q e => .inl (H.f0 b q e), nm := fun y c e => ?_, inj := fun y z q r b e1 e2 a1 a2 => ?_, cel := fun y c e1 e2 => ?_ }
    · obtain ⟨q, hq, rfl⟩ := List.mem_map.mp (H.s.dl d hd)
      exact List.mem_map_of_mem (List.mem_filter.mpr ⟨hq, decide_eq_true fun z => hD _ z hd⟩)
    · have sub : ∀ {b}, b ∈ (l.filter (fun q => decide (q.1 ∉ as))).map (·.1) → b ∈ l.map (·.1) ∧ b ∉ as := fun hb => by
        obtain ⟨q, hq, rfl⟩ := List.mem_map.mp hb
        exact ⟨List.mem_map_of_mem (List.mem_filter.mp hq).1, by simpa using (List.mem_filter.mp hq).2⟩
      rcases e with e | ⟨e1, e2⟩
      · exact ⟨(H.fz b q e).1, (H.fz b q e).2.1, fun z => (H.fz b q e).2.2 (sub z).1⟩
      · exact ⟨H.s.led _ e2, fun z => H.s.offL (z ▸ List.mem_map_of_mem (f := (·.1)) e2), fun z => (sub z).2 e1⟩
    · by_cases hy : y = x
      · subst hy
        rw [look_here] at e; cases e
        refine ⟨.ref A, lk1 lk, .list (.inl fA) lA ?_⟩
        have : ∀ {as' xss'}, Nest X.prog X.w F X.XR l as' xss' → (∀ a ∈ as', a ∈ as) → Reps X.prog X.w (fun b p => F b p ∨ (b ∈ as ∧ (b, p) ∈ l)) X.XR (as'.map .ref) (xss'.map .list) := by
          intro as' xss' ns' sub
          induction ns' with
          | nil => exact .nil
          | cons q1 q2 q3 _ ih => exact .cons (.list (.inr ⟨sub _ (.head _), q1⟩) q2 (q3.mono (fun _ _ e => .inl e) fun _ _ e => e)) (ih fun a ha => sub a (.tail _ ha))
        exact this ns fun a ha => ha
      · rw [look_next hy rfl] at e
        obtain ⟨u, lku, bo⟩ := H.nm y c e
        refine ⟨u, lk1 lku, bo.mono (fun _ _ e => .inl e) fun b ob hb q => keep q fun z => ?_⟩
        exact hy (H.inj _ _ _ _ _ e hx hb z)
    · have hy : y ≠ x := fun z => by subst z; rw [look_here] at e1; cases e1; cases a1
      have hz : z ≠ x := fun z => by subst z; rw [look_here] at e2; cases e2; cases a2
      rw [look_next hy rfl] at e1
      rw [look_next hz rfl] at e2
      exact H.inj y z q r b e1 e2 a1 a2
    · obtain ⟨oc, v, h1, h2⟩ := H.cel y c e1 e2
      exact ⟨oc, v, keep h1 (ncel h1 h2), h2⟩
  exact (r _ m _ h HH).mono fun f h₂ z => z.mono (fun _ _ e => .inl e) fun _ q => q
end
end Mine

end
section
open PySem PySem.W PyProof.Rows PySem.Calls
set_option Elab.async false
set_option linter.unusedVariables false
set_option maxRecDepth 100000
set_option maxHeartbeats 4000000
namespace Mine
theorem fn_lists (P : Params) : FnOkC (frag P) at_law_lists fdOf_law_lists (bodyN (stN pwBody 7)) :=
  ⟨⟨obOf_law_lists P, by kernel_rfl!, rfl⟩, by kernel_rfl!, by kernel_rfl!, by kernel_rfl!, by kernel_rfl!, by kernel_rfl!, by kernel_rfl!, by kernel_rfl!, by kernel_rfl!⟩
noncomputable def base8 : List (List Int) := [[], [0], [0, 0, 1], [1, 2], [3, 3, 3], [0, 1, 2, 3], [1, 1, 0], [2, 1, 2]]
noncomputable def slot8 (x : Int) : Nat := ((x.fdiv 4).fmod 8).toNat
noncomputable def lay8 (L : List (List Int)) (x : Int) : List (List Int) := L.set (slot8 x) (L.getD (slot8 x) [] ++ [x.fmod 4])
noncomputable def lists8 (script : List Int) : List (List Int) := script.foldl lay8 base8
theorem slot8_lt (x : Int) : slot8 x < 8 := by
  have a := Int.fmod_nonneg_of_pos (x.fdiv 4) (b := 8) (by (first | lia | omega))
  have b := Int.fmod_lt_of_pos (x.fdiv 4) (b := 8) (by (first | lia | omega))
  unfold slot8; (first | lia | omega)
theorem lists8_len : ∀ (s : List Int) (L : List (List Int)), (s.foldl lay8 L).length = L.length
  | [], _ => rfl
  | x :: r, L => by rw [List.foldl_cons, lists8_len r]; simp [lay8]
theorem Ex.asL2 {X : Fm} {Γ : Ctx} {rest : List Stmt} {Q : Out → Prop} {x : Str} {px pos pe : Pos} {es : List PySem.Expr} (r : ∀ es', es' = es → Ex X Γ (.Assign [.Name x px] (.List es' pe) pos :: rest) Q) : Ex X Γ (.Assign [.Name x px] (.List es pe) pos :: rest) Q := r es rfl
theorem law_lists {prog : Program} {w : World} {script : List Int} (hs : script.length < 1000) : PureFn prog w (frag w.params) 0 at_law_lists [.list (script.map .int)] (.list ((lists8 script).map fun r => .list (r.map .int))) := by
  intro A h F vs hh room units G std args
  refine (fn_run (lD := []) (ns := [(Str.ofString "script")]) 0 (fun r _ => r = .list ((lists8 script).map fun r => .list (r.map .int))) (fn_lists w.params) hh room units (fun h' s => G.sub s) (fun a o e => ⟨std a o e, by simp⟩) (by first | walk_at "mem" | simp) (by first | walk_at "mem" | simp) ?_ (by decide +kernel) ?_ (by kernel_rfl!) args ?_)
  · obtain ⟨v1, rfl⟩ : ∃ v1, vs = [v1] := by
      cases args with | fz _ a => cases a; exact ⟨_, rfl⟩
    kernel_rfl!
  · cases args with | fz _ a => cases a; rfl
  · intro X ok sc cnew e1 e2 e3 e4 e5
    have hK : X.K = frag X.w.params := by rw [e3, e2]
    show Ex X [((Str.ofString "script"), .fz (.list (script.map .int)))] _ _
    refine Ex.asL2 ?_
    intro es hes
    refine Ex.nest ok (xss := [[], [.int 0], [.int 0, .int 0, .int 1], [.int 1, .int 2], [.int 3, .int 3, .int 3], [.int 0, .int 1, .int 2, .int 3], [.int 1, .int 1, .int 0], [.int 2, .int 1, .int 2]]) ?_ (by rw [hes]; rfl) (by decide) (by walk_at "ld") fun as hD => ?_
    · rw [hes]; exact .cons (N.disp ok .nil rfl (by decide)) (by simp [Safe, Safes]) (.cons (N.disp ok (.cons E.cInt .nil) rfl (by decide)) (by simp [Safe, Safes]) (.cons (N.disp ok (.cons E.cInt (.cons E.cInt (.cons E.cInt .nil))) rfl (by decide)) (by simp [Safe, Safes]) (.cons (N.disp ok (.cons E.cInt (.cons E.cInt .nil)) rfl (by decide)) (by simp [Safe, Safes]) (.cons (N.disp ok (.cons E.cInt (.cons E.cInt (.cons E.cInt .nil))) rfl (by decide)) (by simp [Safe, Safes]) (.cons (N.disp ok (.cons E.cInt (.cons E.cInt (.cons E.cInt (.cons E.cInt .nil)))) rfl (by decide)) (by simp [Safe, Safes]) (.cons (N.disp ok (.cons E.cInt (.cons E.cInt (.cons E.cInt .nil))) rfl (by decide)) (by simp [Safe, Safes]) (.cons (N.disp ok (.cons E.cInt (.cons E.cInt (.cons E.cInt .nil))) rfl (by decide)) (by simp [Safe, Safes]) .nil)))))))
    have b8 : ([[], [.int 0], [.int 0, .int 0, .int 1], [.int 1, .int 2], [.int 3, .int 3, .int 3], [.int 0, .int 1, .int 2, .int 3], [.int 1, .int 1, .int 0], [.int 2, .int 1, .int 2]] : List (List PV)) = base8.map fun r => r.map .int := rfl
    rw [b8]
    refine Ex.forIn ok (n := (script.map PV.int).length) (P := fun i => .int (script.getD i 0)) (It.listN ok (xs := script.map .int) (by walk_at "en") (Safes.ints script) (fun i hi => ?_)) (fun i => [((Str.ofString "lists"), .nest as ((lists8 (script.take i)).map fun r => r.map .int)), ((Str.ofString "script"), .fz (.list (script.map .int)))])
      (fun i => [((Str.ofString "x"), .fz (.int (script.getD i 0))), ((Str.ofString "lists"), .nest as ((lists8 (script.take i)).map fun r => r.map .int)), ((Str.ofString "script"), .fz (.list (script.map .int)))]) ?_ (fun i _ => As.name ok (by walk_at "ld")) (fun i hi => ?_) ?_
    · have : i < script.length := by simpa using hi
      simp [this]
    · rw [List.take_zero]
      show ∀ x b, _ → _
      have : lists8 [] = base8 := rfl
      rw [this]; walk_at "sb"
    · have hi' : i < script.length := by simpa using hi
      have hg : script.getD i 0 = script[i] := by simp [hi']
      have ht : script.take (i + 1) = script.take i ++ [script[i]] := by rw [List.take_add_one]; simp [hi']
      have hl : (lists8 (script.take i)).length = 8 := by rw [lists8, lists8_len]; rfl
      have hslot := slot8_lt (script.getD i 0)
      have hn : lists8 (script.take (i + 1)) = lay8 (lists8 (script.take i)) (script.getD i 0) := by
        rw [ht, lists8, List.foldl_append, hg]; rfl
      have hx : ((lists8 (script.take i)).map fun r => r.map PV.int)[slot8 (script.getD i 0)]? = some (((lists8 (script.take i)).getD (slot8 (script.getD i 0)) []).map PV.int) := by
        have hb : slot8 (script.getD i 0) < (lists8 (script.take i)).length := by (first | lia | omega)
        generalize slot8 (script.getD i 0) = z at *
        rw [List.getElem?_map, List.getD_eq_getElem?_getD, List.getElem?_eq_getElem hb]; rfl
      have rl : ((lists8 (script.take i)).getD (slot8 (script.getD i 0)) []).length ≤ 2000 := by
        have key : ∀ (s : List Int) (L : List (List Int)) (n : Nat), (∀ r ∈ L, r.length ≤ n) → ∀ r ∈ s.foldl lay8 L, r.length ≤ n + s.length := by
          intro s
          induction s with
          | nil => intro L n h r hr; exact Nat.le_add_right_of_le (h r hr)
          | cons y s ih =>
            intro L n h r hr
            rw [List.foldl_cons] at hr
            have := ih (lay8 L y) (n + 1) (fun z hz => ?_) r hr
            · simp only [List.length_cons]; (first | lia | omega)
            · rcases List.mem_or_eq_of_mem_set hz with q | q
              · exact Nat.le_succ_of_le (h z q)
              · subst q
                rw [List.length_append, List.length_singleton]
                rw [List.getD_eq_getElem?_getD]
                cases e : L[slot8 y]? with
                | none => simp
                | some z => simp; exact h z (List.mem_of_getElem? e)
        have k8 := key (script.take i) base8 4 (by decide)
        rw [List.getD_eq_getElem?_getD]
        cases e : (lists8 (script.take i))[slot8 (script.getD i 0)]? with
        | none => simp
        | some z =>
          have := k8 z (List.mem_of_getElem? e)
          rw [List.length_take] at this
          simp; (first | lia | omega)
      refine Ex.nestAppend ok (i := slot8 (script.getD i 0)) (p := .int ((script.getD i 0).fmod 4)) (by walk_at "lk") (by decide +kernel) (E.eq (x := .int (((script.getD i 0).fdiv 4).fmod 8)) ?_ (E.mod (E.fdiv (by walk_at "en") E.cInt (by decide) (by decide)) E.cInt (by decide))) hx (by (first | lia | omega)) (E.mod (by walk_at "en") E.cInt (by decide)) (by simp [Safe]) (by rw [List.length_map]; (first | lia | omega)) rfl (fun Q' h t => TP.Call_method t) (Ex.nil ?_)
      · congr 1
        have a := Int.fmod_nonneg_of_pos ((script.getD i 0).fdiv 4) (b := 8) (by (first | lia | omega))
        unfold slot8; (first | lia | omega)
      · show ∀ x b, _ → _
        have e9 : (lists8 (script.take (i + 1))).map (fun r => r.map PV.int) = ((lists8 (script.take i)).map fun r => r.map PV.int).set (slot8 (script.getD i 0)) (((lists8 (script.take i)).getD (slot8 (script.getD i 0)) []).map PV.int ++ [.int ((script.getD i 0).fmod 4)]) := by
          rw [hn, lay8, List.map_set, List.map_append]; rfl
        rw [e9]; walk_at "sb"
    · rw [List.length_map, List.take_length]
      refine Ex.nestFreeze ok hD (by walk_at "lk") ?_
      refine Ex.ret (p := .list ((lists8 script).map fun r => .list (r.map .int))) (E.eq (x := .list (((lists8 script).map fun r => r.map PV.int).map .list)) (by rw [List.map_map]; rfl) (by walk_at "en")) (Safes.all fun x hx => ?_) rfl
      obtain ⟨r, _, rfl⟩ := List.mem_map.mp hx
      exact Safes.ints r
end Mine

end
section
open PySem
set_option linter.unusedVariables false
set_option maxRecDepth 100000
set_option maxHeartbeats 4000000
namespace Mine
noncomputable def In4 (l : List Int) : Prop := ∀ x ∈ l, x = 0 ∨ x = 1 ∨ x = 2 ∨ x = 3
theorem In4.len : ∀ {l : List Int}, In4 l → l.length = l.count 0 + l.count 1 + l.count 2 + l.count 3
  | [], _ => rfl
  | y :: r, h => by
    have ih := In4.len (l := r) fun x hx => h x (.tail _ hx)
    rcases h y (.head _) with rfl | rfl | rfl | rfl <;> simp [List.count_cons, ih] <;> (first | lia | omega)
theorem min_step (b pre : List Int) (y c : Int) : min ((pre ++ [y]).count c) (b.count c) = min (pre.count c) (b.count c) + (if y = c ∧ pre.count y < b.count y then 1 else 0) := by
  rw [List.count_append, List.count_singleton]
  by_cases h : y = c
  · subst h
    simp only [beq_self_eq_true, true_and, if_true]
    split <;> (first | lia | omega)
  · rw [if_neg (by simpa using h), if_neg fun q => h q.1]
    rfl
theorem one_of4 {y : Int} (h : y = 0 ∨ y = 1 ∨ y = 2 ∨ y = 3) (p : Prop) [Decidable p] : (if y = 0 ∧ p then 1 else 0) + (if y = 1 ∧ p then 1 else 0) + (if y = 2 ∧ p then 1 else 0) + (if y = 3 ∧ p then 1 else 0) = if p then 1 else 0 := by
  rcases h with rfl | rfl | rfl | rfl <;> simp
theorem qm_min_aux (b : List Int) (a : List Int) : ∀ pre : List Int, In4 a → qm b pre a + (min (pre.count 0) (b.count 0) + min (pre.count 1) (b.count 1) + min (pre.count 2) (b.count 2) + min (pre.count 3) (b.count 3)) =
    min ((pre ++ a).count 0) (b.count 0) + min ((pre ++ a).count 1) (b.count 1) + min ((pre ++ a).count 2) (b.count 2) + min ((pre ++ a).count 3) (b.count 3) := by
  induction a with
  | nil => intro pre _; simp [qm]
  | cons y r ih0 =>
    intro pre h
    have ih := ih0 (pre ++ [y]) fun x hx => h x (.tail _ hx)
    rw [List.append_assoc, List.singleton_append, min_step, min_step, min_step, min_step] at ih
    have k := one_of4 (h y (.head _)) (pre.count y < b.count y)
    rw [qm, ← ih, ← k]
    ac_rfl
theorem qm_min {a b : List Int} (h : In4 a) : qm b [] a = min (a.count 0) (b.count 0) + min (a.count 1) (b.count 1) + min (a.count 2) (b.count 2) + min (a.count 3) (b.count 3) := by
  have := qm_min_aux b a [] h
  simpa using this
theorem tri {α β γ ρ1 ρ2 ρ3 U1 U2 U3 : Nat} (e1 : 2 * U1 = α + β + ρ1) (e2 : 2 * U2 = β + γ + ρ2) (e3 : 2 * U3 = α + γ + ρ3) (t : ρ1 ≤ ρ2 + ρ3) (h1 : γ ≤ β + ρ2) (h2 : γ ≤ α + ρ3) : ρ1 * (U2 * U3) ≤ ρ3 * (U1 * U2) + ρ2 * (U1 * U3) := by
  let T := α + β + ρ2 + ρ3
  have i1 : ρ1 * T ≤ (ρ2 + ρ3) * (2 * U1) := by
    rw [e1]
    show ρ1 * (α + β + ρ2 + ρ3) ≤ _
    have a := Nat.mul_le_mul_right (α + β) t
    have b1 : ρ1 * (α + β + ρ2 + ρ3) = ρ1 * (α + β) + ρ1 * (ρ2 + ρ3) := by rw [Nat.add_assoc, Nat.mul_add]
    have b2 : (ρ2 + ρ3) * (α + β + ρ1) = (ρ2 + ρ3) * (α + β) + ρ1 * (ρ2 + ρ3) := by rw [Nat.mul_add, Nat.mul_comm (ρ2 + ρ3) ρ1]
    (first | lia | omega)
  have i2 : 2 * U3 ≤ T := by show 2 * U3 ≤ α + β + ρ2 + ρ3; (first | lia | omega)
  have i3 : 2 * U2 ≤ T := by show 2 * U2 ≤ α + β + ρ2 + ρ3; (first | lia | omega)
  rcases Nat.eq_zero_or_pos T with z | z
  · have : ρ1 = 0 := by
      have : α + β + ρ2 + ρ3 = 0 := z
      (first | lia | omega)
    rw [this, Nat.zero_mul]; exact Nat.zero_le _
  · refine Nat.le_of_mul_le_mul_left ?_ z
    calc T * (ρ1 * (U2 * U3)) = (ρ1 * T) * (U2 * U3) := by ac_rfl
      _ ≤ ((ρ2 + ρ3) * (2 * U1)) * (U2 * U3) := Nat.mul_le_mul_right _ i1
      _ = (2 * U3) * (ρ3 * (U1 * U2)) + (2 * U2) * (ρ2 * (U1 * U3)) := by
        rw [Nat.add_mul, Nat.add_mul, Nat.add_comm]
        congr 1 <;> ac_rfl
      _ ≤ T * (ρ3 * (U1 * U2)) + T * (ρ2 * (U1 * U3)) := Nat.add_le_add (Nat.mul_le_mul_right _ i2) (Nat.mul_le_mul_right _ i3)
      _ = T * (ρ3 * (U1 * U2) + ρ2 * (U1 * U3)) := by rw [Nat.mul_add]
theorem tri_bar {α β γ ρ1 ρ2 ρ3 U1 U2 U3 : Nat} {p q : Nat} (e1 : 2 * U1 = α + β + ρ1) (e2 : 2 * U2 = β + γ + ρ2) (e3 : 2 * U3 = α + γ + ρ3) (t1 : ρ1 ≤ ρ2 + ρ3) (t2 : ρ2 ≤ ρ1 + ρ3) (h1 : γ ≤ β + ρ2) (h2 : γ ≤ α + ρ3) (h3 : α ≤ β + ρ1) (h4 : α ≤ γ + ρ3)
    (bar : ρ3 * (2 * q - p) ≤ (2 * q - 2 * p) * U3) (hpq : p ≤ q) :
    ρ1 * U2 * (2 * q - p) ≤ ρ2 * U1 * (2 * q - p) + (2 * q - 2 * p) * U1 * U2 ∧ ρ2 * U1 * (2 * q - p) ≤ ρ1 * U2 * (2 * q - p) + (2 * q - 2 * p) * U1 * U2 := by
  rcases Nat.eq_zero_or_pos U3 with z | z
  · have a0 : α = 0 := by (first | lia | omega)
    have g0 : γ = 0 := by (first | lia | omega)
    have r3 : ρ3 = 0 := by (first | lia | omega)
    have r12 : ρ1 = ρ2 := by (first | lia | omega)
    have u12 : U1 = U2 := by (first | lia | omega)
    subst r12 u12
    exact ⟨Nat.le_add_right _ _, Nat.le_add_right _ _⟩
  · have a := tri e1 e2 e3 t1 h1 h2
    have b := tri (α := γ) (β := β) (γ := α) (ρ1 := ρ2) (ρ2 := ρ1) (ρ3 := ρ3) (U1 := U2) (U2 := U1) (U3 := U3) (by (first | lia | omega)) (by (first | lia | omega)) (by (first | lia | omega)) t2 h3 h4
    generalize 2 * q - p = c at *
    generalize 2 * q - 2 * p = e at *
    have m := Nat.mul_le_mul_right (U1 * U2) bar
    constructor
    · refine Nat.le_of_mul_le_mul_left ?_ z
      have a' := Nat.mul_le_mul_right c a
      rw [Nat.add_mul] at a'
      have x1 : U3 * (ρ1 * U2 * c) = ρ1 * (U2 * U3) * c := by ac_rfl
      have x2 : U3 * (ρ2 * U1 * c + e * U1 * U2) = ρ2 * (U1 * U3) * c + e * U3 * (U1 * U2) := by rw [Nat.mul_add]; congr 1 <;> ac_rfl
      have x3 : ρ3 * (U1 * U2) * c = ρ3 * c * (U1 * U2) := by ac_rfl
      rw [x1, x2]; rw [x3] at a'
      generalize ρ1 * (U2 * U3) * c = y1 at *
      generalize ρ3 * c * (U1 * U2) = y2 at *
      generalize ρ2 * (U1 * U3) * c = y3 at *
      generalize e * U3 * (U1 * U2) = y4 at *
      (first | lia | omega)
    · refine Nat.le_of_mul_le_mul_left ?_ z
      have b' := Nat.mul_le_mul_right c b
      rw [Nat.add_mul] at b'
      have x1 : U3 * (ρ2 * U1 * c) = ρ2 * (U1 * U3) * c := by ac_rfl
      have x2 : U3 * (ρ1 * U2 * c + e * U1 * U2) = ρ1 * (U2 * U3) * c + e * U3 * (U1 * U2) := by rw [Nat.mul_add]; congr 1 <;> ac_rfl
      have x3 : ρ3 * (U2 * U1) * c = ρ3 * c * (U1 * U2) := by ac_rfl
      rw [x1, x2]; rw [x3] at b'
      generalize ρ2 * (U1 * U3) * c = y1 at *
      generalize ρ3 * c * (U1 * U2) = y2 at *
      generalize ρ1 * (U2 * U3) * c = y3 at *
      generalize e * U3 * (U1 * U2) = y4 at *
      (first | lia | omega)
theorem differ_nat {r1 r2 u1 u2 p q : Nat} (hpq : p ≤ q) (k1 : r1 * u2 * (2 * q - p) ≤ r2 * u1 * (2 * q - p) + (2 * q - 2 * p) * u1 * u2) (k2 : r2 * u1 * (2 * q - p) ≤ r1 * u2 * (2 * q - p) + (2 * q - 2 * p) * u1 * u2) : differ ((r1 : Int), (u1 : Int)) ((r2 : Int), (u2 : Int)) p q = false := by
  obtain ⟨r, rfl⟩ : ∃ r, q = p + r := ⟨q - p, by (first | lia | omega)⟩
  have x2 : 2 * (p + r) - p = p + 2 * r := by (first | lia | omega)
  have x3 : 2 * (p + r) - 2 * p = 2 * r := by (first | lia | omega)
  rw [x2, x3] at k1 k2
  have y2 : 2 * ((p + r : Nat) : Int) - (p : Int) = ((p + 2 * r : Nat) : Int) := by (first | lia | omega)
  have y3 : 2 * ((p + r : Nat) : Int) - 2 * (p : Int) = ((2 * r : Nat) : Int) := by (first | lia | omega)
  unfold differ
  rw [decide_eq_false_iff_not]
  simp only
  rw [y2, y3]
  generalize p + 2 * r = c at *
  generalize 2 * r = e at *
  have z1 : (r1 : Int) * u2 = ((r1 * u2 : Nat) : Int) := by rw [Int.natCast_mul]
  have z2 : (r2 : Int) * u1 = ((r2 * u1 : Nat) : Int) := by rw [Int.natCast_mul]
  have z3 : (e : Int) * u1 * u2 = ((e * u1 * u2 : Nat) : Int) := by rw [Int.natCast_mul, Int.natCast_mul]
  rw [z1, z2, z3]
  generalize r1 * u2 = a at *
  generalize r2 * u1 = b at *
  generalize e * u1 * u2 = g at *
  have w1 : ((a * c : Nat) : Int) = (a : Int) * c := Int.natCast_mul ..
  have w2 : ((b * c : Nat) : Int) = (b : Int) * c := Int.natCast_mul ..
  generalize a * c = ac at *
  generalize b * c = bc at *
  split
  · rw [Int.neg_mul, Int.sub_mul, ← w1, ← w2]; (first | lia | omega)
  · rw [Int.sub_mul, ← w1, ← w2]; (first | lia | omega)
theorem m3le (a p l : Nat) : min l p + min l a ≤ l + min p a := by (first | lia | omega)
theorem bar_of {n q3 p q : Nat} (hn : 2 * q3 ≤ n) (hpq : p ≤ q) (share : p * n ≤ 2 * q3 * q) : (n - 2 * q3) * (2 * q - p) ≤ (2 * q - 2 * p) * (n - q3) := by
  obtain ⟨d, rfl⟩ : ∃ d, n = 2 * q3 + d := ⟨n - 2 * q3, by (first | lia | omega)⟩
  obtain ⟨r, rfl⟩ : ∃ r, q = p + r := ⟨q - p, by (first | lia | omega)⟩
  have x1 : 2 * q3 + d - 2 * q3 = d := by (first | lia | omega)
  have x2 : 2 * (p + r) - p = p + 2 * r := by (first | lia | omega)
  have x3 : 2 * (p + r) - 2 * p = 2 * r := by (first | lia | omega)
  have x4 : 2 * q3 + d - q3 = q3 + d := by (first | lia | omega)
  rw [x1, x2, x3, x4]
  have y1 : p * (2 * q3 + d) = 2 * (p * q3) + p * d := by rw [Nat.mul_add]; congr 1; ac_rfl
  have y2 : 2 * q3 * (p + r) = 2 * (p * q3) + 2 * (r * q3) := by rw [Nat.mul_add]; congr 1 <;> ac_rfl
  have y3 : d * (p + 2 * r) = p * d + 2 * (r * d) := by rw [Nat.mul_add]; congr 1 <;> ac_rfl
  have y4 : 2 * r * (q3 + d) = 2 * (r * q3) + 2 * (r * d) := by rw [Nat.mul_add]; congr 1 <;> ac_rfl
  rw [y1, y2] at share
  rw [y3, y4]
  (first | lia | omega)
theorem qm_tri {A P L : List Int} (hA : In4 A) (hP : In4 P) (hL : In4 L) : qm P [] L + qm A [] L ≤ L.length + qm A [] P := by
  rw [qm_min (b := A) hP, qm_min (b := P) hL, qm_min (b := A) hL, hL.len]
  have a0 := m3le (A.count 0) (P.count 0) (L.count 0)
  have a1 := m3le (A.count 1) (P.count 1) (L.count 1)
  have a2 := m3le (A.count 2) (P.count 2) (L.count 2)
  have a3 := m3le (A.count 3) (P.count 3) (L.count 3)
  generalize min (L.count 0) (P.count 0) = x0 at *
  generalize min (L.count 1) (P.count 1) = x1 at *
  generalize min (L.count 2) (P.count 2) = x2 at *
  generalize min (L.count 3) (P.count 3) = x3 at *
  generalize min (L.count 0) (A.count 0) = y0 at *
  generalize min (L.count 1) (A.count 1) = y1 at *
  generalize min (L.count 2) (A.count 2) = y2 at *
  generalize min (L.count 3) (A.count 3) = y3 at *
  generalize min (P.count 0) (A.count 0) = z0 at *
  generalize min (P.count 1) (A.count 1) = z1 at *
  generalize min (P.count 2) (A.count 2) = z2 at *
  generalize min (P.count 3) (A.count 3) = z3 at *
  (first | lia | omega)
theorem qm_comm {A P : List Int} (hA : In4 A) (hP : In4 P) : qm A [] P = qm P [] A := by
  rw [qm_min (b := A) hP, qm_min (b := P) hA]
  simp only [Nat.min_comm]
theorem differ_no {A P L : List Int} (hA : In4 A) (hP : In4 P) (hL : In4 L) {p q : Nat} (hpq : p ≤ q) (share : p * (L.length + A.length) ≤ 2 * qm A [] L * q) : differ (gp P A) (gp L P) p q = false := by
  have t1 := qm_tri hA hP hL
  have t2 := qm_tri hL hA hP
  have t3 := qm_tri hP hL hA
  have c1 := qm_comm hA hP
  have c2 := qm_comm hP hL
  have c3 := qm_comm hA hL
  have l1 := qm_le A P []
  have l2 := qm_le P L []
  have l3 := qm_le A L []
  have m1 := qm_leb P A
  have m2 := qm_leb L P
  have m3 := qm_leb L A
  have bar := bar_of (n := L.length + A.length) (q3 := qm A [] L) (p := p) (q := q) (by (first | lia | omega)) hpq share
  have key := tri_bar (α := A.length) (β := P.length) (γ := L.length) (ρ1 := P.length + A.length - 2 * qm A [] P) (ρ2 := L.length + P.length - 2 * qm P [] L) (ρ3 := L.length + A.length - 2 * qm A [] L) (U1 := P.length + A.length - qm A [] P) (U2 := L.length + P.length - qm P [] L) (U3 := L.length + A.length - qm A [] L) (p := p) (q := q)
    (by (first | lia | omega)) (by (first | lia | omega)) (by (first | lia | omega)) (by (first | lia | omega)) (by (first | lia | omega)) (by (first | lia | omega)) (by (first | lia | omega)) (by (first | lia | omega)) (by (first | lia | omega)) bar hpq
  have g1 : gp P A = (((P.length + A.length - 2 * qm A [] P : Nat) : Int), ((P.length + A.length - qm A [] P : Nat) : Int)) := by
    unfold gp; exact Prod.ext (by simp only; (first | lia | omega)) (by simp only; (first | lia | omega))
  have g2 : gp L P = (((L.length + P.length - 2 * qm P [] L : Nat) : Int), ((L.length + P.length - qm P [] L : Nat) : Int)) := by
    unfold gp; exact Prod.ext (by simp only; (first | lia | omega)) (by simp only; (first | lia | omega))
  rw [g1, g2]
  exact differ_nat hpq key.1 key.2
end Mine

end
section
open PySem
set_option linter.unusedVariables false
set_option maxRecDepth 100000
set_option maxHeartbeats 4000000
namespace Mine
theorem one_frac : (0x3ff0000000000000 : UInt64) = Float64.ofFrac false 1 1 := by decide +kernel
theorem ratioF_zero {m : Nat} : ratioF m 0 = Float64.ofFrac false 1 1 := by rw [← one_frac]; rfl
theorem share_iff {m n p q : Nat} (hm : 2 * m ≤ n) (hn : n ≤ 500) (hp : 0 < p) (hpq : p ≤ q) (hq : q ≤ 12) :
    (Float64.cmp (ratioF m n) (Float64.ofFrac (decide ((p : Int) < 0) != decide ((q : Int) < 0)) (p : Int).natAbs (q : Int).natAbs) == some .gt || Float64.cmp (ratioF m n) (Float64.ofFrac (decide ((p : Int) < 0) != decide ((q : Int) < 0)) (p : Int).natAbs (q : Int).natAbs) == some .eq) = decide (p * n ≤ 2 * m * q) := by
  have e1 : decide ((p : Int) < 0) = false := decide_eq_false (by (first | lia | omega))
  have e2 : decide ((q : Int) < 0) = false := decide_eq_false (by (first | lia | omega))
  rw [e1, e2, Int.natAbs_natCast, Int.natAbs_natCast]
  show (Float64.cmp _ (Float64.ofFrac false p q) == some .gt || Float64.cmp _ (Float64.ofFrac false p q) == some .eq) = _
  have key : ∀ a b : Nat, (some (compare a b) == some Ordering.gt || some (compare a b) == some Ordering.eq) = decide (b ≤ a) := fun a b => by
    rcases Nat.lt_trichotomy a b with h | h | h
    · rw [Nat.compare_eq_lt.mpr h, decide_eq_false (by (first | lia | omega))]; rfl
    · rw [Nat.compare_eq_eq.mpr h, decide_eq_true (by (first | lia | omega))]; rfl
    · rw [Nat.compare_eq_gt.mpr h, decide_eq_true (by (first | lia | omega))]; rfl
  rcases Nat.eq_zero_or_pos n with z | z
  · subst z
    rw [ratioF_zero, frac_cmp (by (first | lia | omega)) (by (first | lia | omega)) (by (first | lia | omega)) (by (first | lia | omega)) (by (first | lia | omega)) (by (first | lia | omega)), key]
    exact decide_eq_decide.mpr ⟨fun _ => by simp, fun _ => by (first | lia | omega)⟩
  · rw [ratioF_frac (by (first | lia | omega)) z hn, frac_cmp z hn (by (first | lia | omega)) (by (first | lia | omega)) (by (first | lia | omega)) (by (first | lia | omega)), key]
theorem lay8_all {P : List Int → Prop} (hP : ∀ l (x : Int), P l → P (l ++ [x.fmod 4])) (h0 : P []) : ∀ (s : List Int) (L : List (List Int)), (∀ r ∈ L, P r) → ∀ r ∈ s.foldl lay8 L, P r
  | [], L, h => h
  | y :: s, L, h => by
    rw [List.foldl_cons]
    refine lay8_all hP h0 s _ fun z hz => ?_
    rcases List.mem_or_eq_of_mem_set hz with q | q
    · exact h z q
    · subst q
      refine hP _ _ ?_
      rw [List.getD_eq_getElem?_getD]
      cases e : L[slot8 y]? with
      | none => exact h0
      | some z => exact h z (List.mem_of_getElem? e)
theorem lists8_in4 {s : List Int} : ∀ r ∈ lists8 s, In4 r := by
  refine lay8_all (fun l x h z hz => ?_) (fun _ q => by cases q) s base8 (by unfold In4; decide)
  rcases List.mem_append.mp hz with q | q
  · exact h z q
  · have a := Int.fmod_nonneg_of_pos x (b := 4) (by (first | lia | omega))
    have b := Int.fmod_lt_of_pos x (b := 4) (by (first | lia | omega))
    have : z = x.fmod 4 := by simpa using q
    subst this
    (first | lia | omega)
theorem lay8_len : ∀ (s : List Int) (L : List (List Int)) (n : Nat), (∀ r ∈ L, r.length ≤ n) → ∀ r ∈ s.foldl lay8 L, r.length ≤ n + s.length := by
  intro s
  induction s with
  | nil => intro L n h r hr; exact Nat.le_add_right_of_le (h r hr)
  | cons y s ih =>
    intro L n h r hr
    rw [List.foldl_cons] at hr
    have := ih (lay8 L y) (n + 1) (fun z hz => ?_) r hr
    · simp only [List.length_cons]; (first | lia | omega)
    · rcases List.mem_or_eq_of_mem_set hz with q | q
      · exact Nat.le_succ_of_le (h z q)
      · subst q
        rw [List.length_append, List.length_singleton]
        rw [List.getD_eq_getElem?_getD]
        cases e : L[slot8 y]? with
        | none => simp
        | some z => simp; exact h z (List.mem_of_getElem? e)
theorem lists8_short {s : List Int} : ∀ r ∈ lists8 s, r.length ≤ 4 + s.length := lay8_len s base8 4 (by decide)
theorem lists8_eight {s : List Int} : (lists8 s).length = 8 := by rw [lists8, lists8_len]; rfl
theorem lay8_ne {i : Nat} : ∀ (s : List Int) (L : List (List Int)), L.getD i [] ≠ [] → (s.foldl lay8 L).getD i [] ≠ []
  | [], _, h => h
  | y :: s, L, h => by
    rw [List.foldl_cons]
    refine lay8_ne s _ ?_
    rw [lay8, List.getD_eq_getElem?_getD, List.getElem?_set]
    by_cases c : slot8 y = i
    · rw [if_pos c]
      split
      · simp
      · rename_i d
        exfalso; apply h
        rw [List.getD_eq_getElem?_getD, List.getElem?_eq_none (by (first | lia | omega))]; rfl
    · rw [if_neg c, ← List.getD_eq_getElem?_getD]; exact h
theorem lists8_ne {s : List Int} : ∀ i, i < 3 → (lists8 s).getD (i + 1) [] ≠ [] := fun i hi => by
  refine lay8_ne s base8 ?_
  rcases i with _ | _ | _ | i
  · decide
  · decide
  · decide
  · (first | lia | omega)
noncomputable def shareV (L : List (List Int)) (asked : List Int) (k : Nat) : PV :=
  if 0 < (L.getD k []).length + asked.length then .flt (Float64.ofFrac false (2 * qm asked [] (L.getD k [])) ((L.getD k []).length + asked.length)) else .int 1
noncomputable abbrev dueV (L : List (List Int)) (asked : List Int) (k : Nat) : PV := .tup [.int k, shareV L asked k, .bool true]
noncomputable def isDue (L : List (List Int)) (asked : List Int) (p q k : Nat) : Bool := decide (p * ((L.getD k []).length + asked.length) ≤ 2 * qm asked [] (L.getD k []) * q)
theorem found_due {L : List (List Int)} {asked : List Int} {p q : Nat} (hL : L.length = 8) (h4 : ∀ r ∈ L, In4 r) (hs : ∀ r ∈ L, r.length < 150) (ha4 : In4 asked) (has : asked.length < 150) (hp : 0 < p) (hpq : p ≤ q) (hq : q ≤ 12) :
    foundV L asked p q 8 = ((List.range 8).filter fun k => isDue L asked p q k).map (hitV L asked) := by
  show List.map _ (List.filter _ _) = _
  congr 1
  refine List.filter_congr fun k hk => ?_
  have hk := List.mem_range.mp hk
  have at8 : ∀ i, i < 8 → L.getD i [] ∈ L := fun i hi => by
    have : L.getD i [] = L[i] := by simp [hL, hi]
    rw [this]; exact List.getElem_mem _
  have l1 := qm_le asked (L.getD k []) []
  have l2 := qm_leb (L.getD k []) asked
  have s1 := hs _ (at8 k hk)
  have e : shareOk L asked p q k = isDue L asked p q k := share_iff (by (first | lia | omega)) (by (first | lia | omega)) hp hpq hq
  rw [e]
  cases c : isDue L asked p q k with
  | false => rw [Bool.and_false]
  | true =>
    rw [Bool.and_true, stays, List.all_eq_true]
    intro i hi
    have hi := List.mem_range.mp hi
    rw [differ_no ha4 (h4 _ (at8 _ (by (first | lia | omega)))) (h4 _ (at8 k hk)) hpq (of_decide_eq_true c)]
    rfl
end Mine

end
section
open PySem PySem.W PyProof.Rows PySem.Calls
set_option Elab.async false
set_option linter.unusedVariables false
set_option maxRecDepth 100000
set_option maxHeartbeats 4000000
namespace Mine
theorem noneBooked {P : Params} {h : Heap} (G : Gr (frag P) h) : NoneBooked h :=
  ⟨h.nsMap cStatics, .of_isNs (isNs_of_in G.k (by kernel_rfl!)), nsMap_none_of_in G.k (by kernel_rfl!) (by kernel_rfl!)⟩
section
variable {A : Around} {s : Shared}
theorem eqAt_ff {x : UInt64} {t u : Tok} (ht : t ≠ 0) (hu : u ≠ 0) (hb : NoneBooked s.heap) (hx : (Float64.cmp x x == some .eq) = true) : PySem.SeqAt.EqAt A s (.float x t) (.float x u) true := fun prog w E Q hq => by
  unfold eqBool
  refine wpAny_holding ?_
  refine wpAny_ite_split (fun _ => wpAny_bind (wpAny_rule (wpAny_pure hq))) (fun hab => ?_)
  have fin : wpAny (model prog w) A (do truthOfDropped (← richCompare .Eq (.float x t) (.float x u))) Q E s :=
    wpAny_bind (AutoFloatOps.eq_0 (by rw [hx]; exact wpAny_truthy_bool hq))
  have same : ∀ {R : Bool → Shared → Prop}, (∀ b, R b s) → wpAny (model prog w) A (isSame (.float x t) (.float x u)) R E s := fun {R} hR => by
    show wpAny _ A (isSame.created (x == x && !Float64.isNaN x) t u) R E s
    unfold isSame.created
    refine wpAny_ite ?_
    split
    · rename_i h; simp [ht, hu] at h
    refine wpAny_ite ?_
    split
    · exact wpAny_pure (hR _)
    refine wpAny_ite ?_
    split
    · exact wpAny_pure (hR _)
    refine wpAny_bind (wpAny_sharingNotTold_none hb ?_)
    first | rw [if_neg Bool.false_ne_true] | simp only [Bool.false_eq_true, if_false]
    refine wpAny_bind (wpAny_sharingNotTold_none hb ?_)
    first | rw [if_neg Bool.false_ne_true] | simp only [Bool.false_eq_true, if_false]
    exact wpAny_bind (wpAny_rule (wpAny_bind (wpAny_askSetting (wpAny_pure (hR _)))))
  refine wpAny_bind (same fun b => ?_)
  cases b
  · exact fin
  · exact wpAny_pure hq
theorem eqAt_fi {x : UInt64} {i : Int} {t u : Tok} (hx : (Float64.cmpInt x i == some .eq) = true) : PySem.SeqAt.EqAt A s (.float x t) (.int i u) true := fun prog w E Q hq => by
  unfold eqBool
  refine wpAny_holding ?_
  refine wpAny_ite_split (fun _ => wpAny_bind (wpAny_rule (wpAny_pure hq))) (fun hab => ?_)
  exact wpAny_bind (PyProof.Rows.eq_fi (by rw [hx]; exact wpAny_truthy_bool hq))
end
inductive EqP : PV → PV → Prop
  | int (i : Int) : EqP (.int i) (.int i)
  | bool (b : Bool) : EqP (.bool b) (.bool b)
  | flt (x : UInt64) : (Float64.cmp x x == some .eq) = true → EqP (.flt x) (.flt x)
  | fi (x : UInt64) (i : Int) : (Float64.cmpInt x i == some .eq) = true → EqP (.flt x) (.int i)
theorem EqP.at {prog : Program} {w : World} {F R : Store} {A : Around} {s : Shared} {u v : Value} {x y : PV} (e : EqP x y) (ru : Rep prog w F R u x) (rv : Rep prog w F R v y) (hb : NoneBooked s.heap) : PySem.SeqAt.EqAt A s u v true := by
  cases e with
  | int i =>
    obtain ⟨t, rfl⟩ := ru.i
    obtain ⟨t', rfl⟩ := rv.i
    have := PySem.SeqAt.EqAt.int_int (A := A) (s := s) i t i t'
    rwa [beq_self_eq_true] at this
  | bool b => obtain rfl := ru.b; obtain rfl := rv.b; exact .same _
  | flt x hx => obtain ⟨_, rfl, n₁⟩ := ru.f; obtain ⟨_, rfl, n₂⟩ := rv.f; exact eqAt_ff n₁ n₂ hb hx
  | fi x i hx => obtain ⟨_, rfl, n₁⟩ := ru.f; obtain ⟨_, rfl⟩ := rv.i; exact eqAt_fi hx
theorem Cmp.neTups {X : Fm} (ok : FmOk X) (hK : X.K = frag X.w.params) {p q : PV} {xs ys : List (List PV)} (il : IsL p (xs.map .tup)) (il' : IsL q (ys.map .tup)) (hlen : xs.length = ys.length)
    (hxy : ∀ (i : Nat) (x y : List PV), xs[i]? = some x → ys[i]? = some y → x.length = y.length ∧ ∀ (j : Nat) a b, x[j]? = some a → y[j]? = some b → EqP a b) : Cmp X .NotEq p q false := fun Γ F m l h u v H ru rv => by
  obtain ⟨a, vs, rfl, hl, rs⟩ := H.lst ok il ru
  obtain ⟨b, us, rfl, hl', rs'⟩ := H.lst ok il' rv
  have len := rs.length
  have len' := rs'.length
  rw [List.length_map] at len len'
  have hu := ok.units
  have nb : NoneBooked h := noneBooked (hK ▸ H.gr ok)
  refine TP.of fun s es => ?_
  subst es
  have key := PySem.SeqAt.RcNeAt.lists (A := X.A) (s := s) (e := fun _ => true) hl hl' (by simp only [List.size_toArray]; (first | lia | omega)) (by (first | lia | omega)) (fun j h1 h2 => by
    simp only [List.size_toArray] at h1 h2
    have j1 : j < xs.length := by (first | lia | omega)
    have j2 : j < ys.length := by (first | lia | omega)
    obtain ⟨v1, e1, r1⟩ := rs.get (i := j) (x := .tup xs[j]) (by simp [j1])
    obtain ⟨v2, e2, r2⟩ := rs'.get (i := j) (x := .tup ys[j]) (by simp [j2])
    have g1 : vs.toArray[j]'(by simpa using h1) = v1 := by
      rw [List.getElem?_eq_getElem h1] at e1; simpa using e1
    have g2 : us.toArray[j]'(by simpa using h2) = v2 := by
      rw [List.getElem?_eq_getElem h2] at e2; simpa using e2
    rw [g1, g2]
    obtain ⟨tl, te⟩ := hxy j _ _ (List.getElem?_eq_getElem j1) (List.getElem?_eq_getElem j2)
    cases r1 with | tup a1 a2 a3 =>
    cases r2 with | tup b1 b2 b3 =>
    rename_i ta to tvs tb to' tus
    by_cases same : ta = tb
    · subst same; exact .same _
    refine .of_refs same ?_
    have l1 := a3.length
    have l2 := b3.length
    have := PySem.SeqAt.RcAt.tuples (A := X.A.in1) (s := s) (e := fun _ => true) (a2.isTuple (H.fz _ _ a1).1) (b2.isTuple (H.fz _ _ b1).1) (by simp only [Around.in1_units]; (first | lia | omega)) (fun k k1 k2 => by
      simp only [List.size_toArray] at k1 k2
      have q1 : k < xs[j].length := by (first | lia | omega)
      have q2 : k < ys[j].length := by (first | lia | omega)
      obtain ⟨w1, f1, s1⟩ := a3.get (List.getElem?_eq_getElem q1)
      obtain ⟨w2, f2, s2⟩ := b3.get (List.getElem?_eq_getElem q2)
      have g1 : tvs.toArray[k]'(by simpa using k1) = w1 := by
        rw [List.getElem?_eq_getElem k1] at f1; simpa using f1
      have g2 : tus.toArray[k]'(by simpa using k2) = w2 := by
        rw [List.getElem?_eq_getElem k2] at f2; simpa using f2
      rw [g1, g2]
      exact (te k _ _ (List.getElem?_eq_getElem q1) (List.getElem?_eq_getElem q2)).at s1 s2 nb)
    have e3 : ((List.range (min tvs.toArray.size tus.toArray.size)).all (fun _ => true) && tvs.toArray.size == tus.toArray.size) = true := by
      have : tvs.length = tus.length := by (first | lia | omega)
      simp [this]
    rwa [e3] at this)
  have e4 : (!(List.range vs.toArray.size).all fun _ => true) = false := by simp
  rw [e4] at key
  exact key _ _ _ _ ⟨s.heap, s.toks, rfl, F, fun _ _ e => e, H, .bool _⟩
theorem hit_due {L : List (List Int)} {asked : List Int} {k : Nat} (hn : (L.getD k []).length + asked.length ≤ 500) : EqP (.flt (ratioF (qm asked [] (L.getD k [])) ((L.getD k []).length + asked.length))) (shareV L asked k) := by
  have l1 := qm_le asked (L.getD k []) []
  have l2 := qm_leb (L.getD k []) asked
  unfold shareV
  split
  · rename_i h0
    rw [ratioF_frac (by (first | lia | omega)) h0 hn]
    refine .flt _ ?_
    rw [frac_cmp h0 hn (by (first | lia | omega)) h0 hn (by (first | lia | omega)), Nat.compare_eq_eq.mpr rfl]; rfl
  · rename_i h0
    have : (L.getD k []).length + asked.length = 0 := by (first | lia | omega)
    have one : ∀ m, ratioF m 0 = 0x3ff0000000000000 := fun _ => rfl
    rw [this, one]
    exact .fi _ _ (by decide +kernel)
end Mine

end
section
open PySem PySem.W PyProof.Rows PySem.Calls
set_option Elab.async false
set_option linter.unusedVariables false
set_option maxRecDepth 100000
set_option maxHeartbeats 4000000
namespace Mine
section
variable {X : Fm} {Γ Γ' Γc : Ctx} {F F' : Store} {m : Str → Option Value} {l : List (Addr × Obj)} {h h' : Heap} {Q : Out → Prop} {rest : List Stmt} {s : Scope} {cn : List Str}
structure TurnM (X : Fm) (l : List (Addr × Obj)) (h₁ : Heap) (F₁ : Store) (L acc I d : Addr) (Pm : Store → Obj → Prop) (oa : Obj) (oi : Obj) (F1 : Store) (h : Heap) : Prop where
  sub : Sub [d] h₁ h
  le : ∀ a o, F₁ a o → F1 a o
  ns : ∃ m, h.Ns L m
  ga : h.get? acc = some oa
  gi : h.get? I = some oi
  gd : ∃ od, h.get? d = some od ∧ (∃ es n, od = dictOf es n) ∧ ∀ F2, (∀ a o, F1 a o → ¬ NoVal o → F2 a o) → Pm F2 od
  fz : ∀ a o, F1 a o → h.get? a = some o ∧ a ≠ L ∧ a ≠ acc ∧ a ≠ I ∧ a ≠ d
  fn : ∀ a o, F1 a o → F₁ a o ∨ h₁.get? a = none
theorem comp_loopM (ok : FmOk X) (sc : Sc X s cn) {elt target iter : PySem.Expr} {scope : Scope} {pos : Pos} {n : Nat} {P : Nat → PV} {g : Nat → PV} {M : Str} {d C : Addr} {Pm : Store → Obj → Prop} {env' : Env} {acc I : Addr} {oacc oI : Obj} {h₁ h₃ : Heap} {St : Nat → Obj → Prop} {Pv : Nat → Value → Prop} {F₁ : Store}
    (hcell : compOk s cn scope = true) (hcc : CompCtx s scope Γ Γc) (hM : Γ.lookup M = some (.mat d C Pm)) (hMc : cellIn s scope M = true)
    (body : ∀ X' : Fm, FmOk X' → Sc X' (relabel scope (scEnv s)) (closN scope.names) → SameTop X X' → ∀ i, i < n → ∃ Γ1 Γ2, AsL X' ((M, .mat d C Pm) :: Γc) target (P i) Γ1 ∧ EM X' Γ1 elt (g i) Γ2 ∧ ∃ M', Γ2.lookup M' = some (.mat d C Pm))
    (hg : ∀ i, i < n → Safe (g i)) (hn : n ≤ 1000000)
    (H₁ : Holds X Γ F₁ m l h₁) (itr : ∀ h, Std F₁ h → Iter X.prog X.w X.A I h n Pv St target) (st : St 0 oI) (rp : ∀ i v, i < n → Pv i v → Rep X.prog X.w F₁ X.XR v (P i))
    (e' : EnvOk env') (hsc : env'.scope = relabel scope X.env) (hcl : env'.cells = closL X.env.cells scope.names []) (la : IsLst oacc [])
    (H : S h₁ [] env'.locals (fun _ => none) ([(acc, oacc)] ++ [(I, oI)]) h₃) :
    TLP X.prog X.w X.A (.compLoop (.ListComp elt [⟨target, iter, [], 0⟩] scope pos) 0 (.ref I) (.ref acc) env') h₃ fun h' => (∃ m₁, h'.Ns env'.locals m₁) ∧ h₁.get? env'.locals = none ∧ ∃ F' l' o, (∀ a o, F₁ a o → F' a o) ∧ Holds X ((M, .mat d C Pm) :: Γ) F' m l' h' ∧ h'.get? acc = some o ∧ Fresh X F' l' acc ∧ ORep X.prog X.w F' (RS X l') o (.list ((List.range n).map g)) ∧ acc ≠ env'.locals ∧ (∀ a o, F' a o → a ≠ env'.locals) ∧ l'.map (·.1) = l.map (·.1) := by
  simp only [compOk, Bool.and_eq_true] at hcell
  obtain ⟨⟨k1, k2⟩, k3⟩ := hcell
  have hfree : ∀ y ∈ scope.names, y.2 = .free → (X.env.cells.lookup y.1).isSome = true := fun y hy hf => by
    have := List.all_eq_true.mp k3 y hy
    rw [hf] at this
    refine lookup_some_of_mem ?_
    rw [sc.c]
    simpa using this
  have hss : X.env.scope = (scEnv s).scope := sc.s
  obtain ⟨vM, lkM, xM, odM, rfl, fxM, hdM, ⟨esM, nM, rfl⟩, hpM⟩ := H₁.nm M _ hM
  have gdM : h₁.get? d = some (dictOf esM nM) := H₁.s.led _ hdM
  have newL : h₁.get? env'.locals = none := H.newL
  have nacc : h₁.get? acc = none := (H.own (acc, oacc) (by first | walk_at "mem" | simp)).resolve_left (by first | walk_at "mem" | simp)
  have nI : h₁.get? I = none := (H.own (I, oI) (by first | walk_at "mem" | simp)).resolve_left (by first | walk_at "mem" | simp)
  have dn : acc ≠ I := by
    have := H.nodup
    simpa using this
  have accL : acc ≠ env'.locals := fun z => H.offL (by simp [← z])
  have IL : I ≠ env'.locals := fun z => H.offL (by simp [← z])
  have dL : d ≠ env'.locals := fun z => by rw [← z, gdM] at newL; cases newL
  have dacc : d ≠ acc := fun z => by rw [← z, gdM] at nacc; cases nacc
  have dI : d ≠ I := fun z => by rw [← z, gdM] at nI; cases nI
  have xrd : ∀ {a o}, X.XR a o → a ≠ d := fun {a o} e z => by
    subst z
    have := ok.xr _ _ e
    rcases H₁.s.own _ hdM with q | q
    · exact this.2 q
    · rw [q] at this; cases this.1
  let XR' : Store := fun a o => RS X l a o ∧ a ≠ d
  have turn : ∀ {F1 : Store} {oa oi : Obj} {h : Heap}, TurnM X l h₁ F₁ env'.locals acc I d Pm oa oi F1 h → ∃ X' : Fm, FmOk X' ∧ Sc X' (relabel scope (scEnv s)) (closN scope.names) ∧ SameTop X X' ∧ X'.env = env' ∧ X'.D = [d] ∧ X'.F₀ = F1 ∧ X'.XR = XR' ∧ X'.prog = X.prog ∧ X'.w = X.w ∧ X'.A = X.A ∧ (∃ m1 l1, Holds X' ((M, .mat d C Pm) :: Γc) F1 m1 l1 h) ∧ (∀ b o, b ≠ env'.locals → h.get? b = some o → X'.h₀.get? b = some o) ∧ X'.h₀.get? env'.locals = none := fun {F1 oa oi h} t => by
    obtain ⟨hb, hb1, hb2, hb3⟩ := hole h env'.locals
    obtain ⟨od, gd, ⟨es, nn, rfl⟩, hp⟩ := t.gd
    obtain ⟨m1, ns⟩ := t.ns
    have old : ∀ b o, b ≠ d → h₁.get? b = some o → hb.get? b = some o := fun b o nb e => hb3 b o (fun z => by
      obtain rfl : b = env'.locals := by simpa using z
      rw [newL] at e; cases e) (t.sub b o (by simpa using nb) e)
    have gdb : hb.get? d = some (dictOf es nn) := hb3 _ _ (by simpa using dL) gd
    let X' : Fm := ⟨X.prog, X.w, X.A, env', hb, [d], F1, XR', X.K, X.rd⟩
    refine ⟨X', ?_, ?_, ⟨rfl, rfl, rfl, rfl, rfl⟩, rfl, rfl, rfl, rfl, rfl, rfl, rfl, ⟨m1, [(d, dictOf es nn)], ?_⟩, fun b o nb e => hb3 b o (by simpa using nb) e, hb1⟩
    · exact {
        e := e'
        hh := ok.hh
        gr := fun h q => H₁.grOff ok hdM fun b o nb eb => q b o nb (old b o (by simpa using nb) eb)
        f0 := fun a o e => ⟨hb3 _ _ (by simpa using (t.fz a o e).2.1) (t.fz a o e).1, fun z => (t.fz a o e).2.2.2.2 (List.mem_singleton.mp z)⟩
        xr := fun a o e => ⟨old _ _ e.2 (H₁.rs ok e.1), fun z => e.2 (List.mem_singleton.mp z)⟩
        cinj := fun x y c e1 e2 => by
          have e1 : (closL X.env.cells scope.names []).lookup x = some c := hcl ▸ e1
          have e2 : (closL X.env.cells scope.names []).lookup y = some c := hcl ▸ e2
          exact ok.cinj x y c (closL_look _ _ hfree (by first | walk_at "mem" | simp) e1) (closL_look _ _ hfree (by first | walk_at "mem" | simp) e2)
        room := ok.room
        units := ok.units }
    · exact ⟨hsc.trans (relabel_of hss), by
        show env'.cells.map (·.1) = _
        rw [hcl, closL_map]; rfl⟩
    · have cellOf : ∀ {x : Str} {v : Value}, cellIn s scope x = true → Look X m l x v → Look X' m1 [(d, dictOf es nn)] x v := fun {x v} e3 lk => by
        simp only [cellIn, Bool.and_eq_true, decide_eq_true_eq] at e3
        obtain ⟨⟨q1, q2⟩, q3⟩ := e3
        have kc : X.env.kindOf x = some .cell := by rw [sc.kind]; exact q1
        rcases lk with ⟨k, _⟩ | ⟨c, oc, k, hc, ho, hv⟩
        · rw [kc] at k; cases k
        · refine .inr ⟨c, oc, ?_, ?_, .inr ⟨ho.elim .inr .inl, fun z => ?_⟩, hv⟩
          · show env'.kindOf x = _
            unfold Env.kindOf
            rw [hsc, relabel_of hss]; exact q2
          · show env'.cells.lookup x = _
            rw [hcl]
            obtain ⟨d', hd⟩ := Option.isSome_iff_exists.mp (closL_has (cells := X.env.cells) (x := x) scope.names [] (.inr q3))
            rw [hd]
            have := closL_look _ _ hfree (by first | walk_at "mem" | simp) hd
            rw [hc] at this; exact this.symm
          · subst z
            rcases ho with ho | ho
            · rw [H₁.s.one ho hdM] at hv; cases hv
            · exact xrd ho rfl
      exact {
        s := {
          base := fun b o nb e => hb2 b o (by first | walk_at "mem" | simp) e
          ns := ns
          led := fun p hp => by
            obtain rfl : p = (d, dictOf es nn) := by simpa using hp
            exact gd
          own := fun p hp => by
            obtain rfl : p = (d, dictOf es nn) := by simpa using hp
            exact .inl (by simp [X'])
          nodup := by simp
          offL := by simpa using dL.symm
          newL := hb1
          dl := fun b hb => by simpa [X'] using hb }
        fz := fun a o e => ⟨(t.fz a o e).1, (t.fz a o e).2.1, by simpa using (t.fz a o e).2.2.2.2⟩
        fn := fun a o e => .inl e
        f0 := fun a o e => e
        nm := fun x b e => by
          by_cases hx : x = M
          · subst hx
            rw [look_here] at e; cases e
            exact ⟨.ref xM, cellOf hMc lkM, xM, _, rfl, t.le _ _ fxM, .head _, ⟨es, nn, rfl⟩, hp⟩
          · rw [look_next hx rfl] at e
            obtain ⟨c', e1, e2, e3, e4⟩ := hcc x b e
            obtain ⟨v, lk, bo⟩ := H₁.nm x c' e1
            refine ⟨v, cellOf e3 lk, ?_⟩
            subst e2
            cases c' with
            | fz p => exact Rep.mono t.le (fun a o e => ⟨.inl e, xrd e⟩) bo
            | mat d C P => cases e4
            | nest as xss => cases e4
            | own a p =>
              obtain ⟨o, rfl, h2, h3⟩ := bo
              have nad : a ≠ d := fun z => by
                subst z
                exact hx (H₁.inj _ _ _ _ _ e1 hM (.head _) (.head _))
              cases h3 with
              | list h1 h2' => exact .rlist ⟨.inr h2, nad⟩ h1 (h2'.mono t.le fun _ _ e => ⟨.inl e, xrd e⟩)
              | dict h1 h2' h3 => exact .rdict ⟨.inr h2, nad⟩ h1 h2' (h3.mono t.le fun _ _ e => ⟨.inl e, xrd e⟩)
        inj := fun x y p q a e1 e2 a1 a2 => by
          have only : ∀ {x p}, ((M, Bind.mat d C Pm) :: Γc).lookup x = some p → a ∈ p.addrs → x = M := fun {x p} e1 a1 => by
            by_cases hx : x = M
            · exact hx
            · rw [look_next hx rfl] at e1
              obtain ⟨c', _, e2, _⟩ := hcc x _ e1
              subst e2
              cases c' <;> cases a1
          rw [only e1 a1, only e2 a2]
        cel := fun x c e1 e2 => by
          exfalso
          have e1 : (closL X.env.cells scope.names []).lookup x = some c := hcl ▸ e1
          have e3 := closL_look _ _ hfree (by first | walk_at "mem" | simp) e1
          have e2 : hb.get? c = none := e2
          have some1 : ∃ oc, h₁.get? c = some oc := by
            by_cases hx : X.h₀.get? c = none
            · obtain ⟨oc, v, a1, a2⟩ := H₁.cel x c e3 hx
              exact ⟨oc, H₁.s.led _ a1⟩
            · cases q : X.h₀.get? c with
              | none => exact absurd q hx
              | some oc =>
                by_cases hD : c ∈ X.D
                · obtain ⟨p, hp, rfl⟩ := List.mem_map.mp (H₁.s.dl c hD)
                  exact ⟨_, H₁.s.led _ hp⟩
                · exact ⟨_, H₁.s.base c oc hD q⟩
          obtain ⟨oc, q⟩ := some1
          by_cases z : c = d
          · subst z; rw [gdb] at e2; cases e2
          · rw [old _ _ z q] at e2; cases e2 }
  have t0 : TurnM X l h₁ F₁ env'.locals acc I d Pm oacc oI F₁ h₃ := {
    sub := fun b o _ e => H.base b o (by first | walk_at "mem" | simp) e
    le := fun _ _ e => e
    ns := ⟨_, H.ns⟩
    ga := H.get (by first | walk_at "mem" | simp)
    gi := H.get (by first | walk_at "mem" | simp)
    gd := ⟨_, H.base _ _ (by first | walk_at "mem" | simp) gdM, ⟨_, _, rfl⟩, hpM⟩
    fz := fun a o e => by
      have q := (H₁.fz a o e)
      refine ⟨H.base _ _ (by first | walk_at "mem" | simp) q.1, fun z => ?_, fun z => ?_, fun z => ?_, fun z => ?_⟩
      · rw [z, newL] at q; cases q.1
      · rw [z, nacc] at q; cases q.1
      · rw [z, nI] at q; cases q.1
      · exact q.2.2 (z ▸ List.mem_map_of_mem (f := (·.1)) hdM)
    fn := fun a o e => .inl e }
  refine tlp_loop (fun k h => ∃ i F1 oa vs o, k + i = n ∧ TurnM X l h₁ F₁ env'.locals acc I d Pm oa o F1 h ∧ IsLst oa vs ∧ Reps X.prog X.w F1 (RS X l) vs ((List.range i).map g) ∧ St i o) ?_ n ⟨0, F₁, oacc, [], oI, rfl, t0, la, .nil, st⟩
  rintro k h ⟨i, F1, oa, vs, o, hk, t, lv, rv, hst⟩
  have stand : Std F₁ h := fun b p e => (t.fz b p (t.le b p e)).1
  by_cases hlt : i < n
  · refine (TP.of ((itr h stand).item i h o hlt Sub.refl t.gi hst)).mono ?_
    rintro r h₄ ⟨v, o', rfl, hP, s₄, g₄, hst'⟩
    have t4 : TurnM X l h₁ F₁ env'.locals acc I d Pm oa o' F1 h₄ := {
      sub := fun b o nb e => s₄ _ _ (fun z => by
        obtain rfl : b = I := by simpa using z
        rw [nI] at e; cases e) (t.sub b o nb e)
      le := t.le
      ns := by
        obtain ⟨m1, oL, a1, a2, a3, a4⟩ := t.ns
        exact ⟨m1, oL, a1, a2, s₄ _ _ (by simpa using IL.symm) a3, a4⟩
      ga := s₄ _ _ (by simpa using dn) t.ga
      gi := g₄
      gd := let ⟨od, q1, q2⟩ := t.gd; ⟨od, s₄ _ _ (by simpa using dI) q1, q2⟩
      fz := fun a o e => ⟨s₄ _ _ (by simpa using (t.fz a o e).2.2.2.1) (t.fz a o e).1, (t.fz a o e).2⟩
      fn := t.fn }
    refine (TP.of ((itr h stand).go i v h₄ o' hP g₄ hst')).mono ?_
    rintro _ h₅ rfl
    obtain ⟨X', ok', sc', top, x1, x2, x3, x4, x5, x6, x7, ⟨m1, l1, HH⟩, up, hL⟩ := turn t4
    obtain ⟨Γ1, Γ2, as1, el1, M', lk2⟩ := body X' ok' sc' top i hlt
    have rv1 : Rep X'.prog X'.w F1 X'.XR v (P i) := by
      rw [x5, x6, x4]
      exact (rp i v hlt hP).mono t.le fun a o e => ⟨.inl e, xrd e⟩
    have as2 := as1 F1 m1 _ h₅ v HH rv1
    rw [x5, x6, x7, x1] at as2
    refine TP.mono as2 ?_
    rintro _ h₆ ⟨F6, m6, le6, H₆⟩
    refine p_tests0 ?_
    have el2 := el1 F6 m6 _ h₆ H₆
    rw [x5, x6, x7, x1] at el2
    refine TP.mono el2 ?_
    rintro x h₈ ⟨F8, m8, l8, le8, H₈, r8⟩
    rw [x4] at r8
    have base8 : ∀ b o, b ≠ d → b ≠ env'.locals → h₅.get? b = some o → h₈.get? b = some o := fun b o n1 n2 e => H₈.s.base b o (by rw [x2]; simpa using n1) (up b o n2 e)
    have ga8 := base8 _ _ dacc.symm accL t4.ga
    have gi8 := base8 _ _ dI.symm IL t4.gi
    have r8' : Rep X.prog X.w F8 (RS X l) x (g i) := Rep.safe (R' := RS X l) r8 (hg i hlt)
    have lv' := rv.length
    have lmap : ((List.range i).map g).length = i := by simp
    obtain ⟨v8, lk8, x8, od8, rfl, fx8, hd8, q8, hp8⟩ := H₈.nm M' _ lk2
    have gd8 := H₈.s.led _ hd8
    refine TP.of (t_append ga8 lv (by rw [sizeLine_eq]; (first | lia | omega)) fun h₉ o₉ s₉ g₉ l₉ => ?_)
    refine ⟨k - 1, by (first | lia | omega), i + 1, F8, o₉, _, o', by (first | lia | omega), ?_, l₉, ?_, hst'⟩
    · have leF : ∀ a o, F1 a o → F8 a o := fun a o e => le8 a o (le6 a o e)
      have fz8 : ∀ a o, F8 a o → h₈.get? a = some o ∧ a ≠ env'.locals ∧ a ≠ acc ∧ a ≠ I ∧ a ≠ d := fun a o e => by
        obtain ⟨f1, f2, f3⟩ := H₈.fz a o e
        rw [x1] at f2
        refine ⟨f1, f2, fun z => ?_, fun z => ?_, fun z => f3 (z ▸ List.mem_map_of_mem (f := (·.1)) hd8)⟩
        · rcases H₈.fn a o e with q | q
          · rw [x3] at q; exact (t4.fz a o q).2.2.1 z
          · subst z; rw [up _ _ accL t4.ga] at q; cases q
        · rcases H₈.fn a o e with q | q
          · rw [x3] at q; exact (t4.fz a o q).2.2.2.1 z
          · subst z; rw [up _ _ IL t4.gi] at q; cases q
      exact {
        sub := fun b o nb e => s₉ _ _ (fun z => by
          obtain rfl : b = acc := by simpa using z
          rw [nacc] at e; cases e) (base8 b o (by simpa using nb) (fun z => by rw [z, newL] at e; cases e) (t4.sub b o nb e))
        le := fun a o e => leF a o (t.le a o e)
        ns := by
          have := H₈.s.ns
          rw [x1] at this
          obtain ⟨oL, a1, a2, a3, a4⟩ := this
          exact ⟨_, oL, a1, a2, s₉ _ _ (by simpa using accL.symm) a3, a4⟩
        ga := g₉
        gi := s₉ _ _ (by simpa using dn.symm) gi8
        gd := ⟨od8, s₉ _ _ (by simpa using dacc) gd8, q8, hp8⟩
        fz := fun a o e => ⟨s₉ _ _ (by simpa using (fz8 a o e).2.2.1) (fz8 a o e).1, (fz8 a o e).2⟩
        fn := fun a o e => by
          rcases H₈.fn a o e with q | q
          · rw [x3] at q; exact t4.fn a o q
          · right
            cases z : h₁.get? a with
            | none => rfl
            | some oz =>
              exfalso
              have nd := (fz8 a o e).2.2.2.2
              rw [up a oz (fz8 a o e).2.1 (t4.sub a oz (by simpa using nd) z)] at q; cases q }
    · rw [List.range_succ, List.map_append]
      exact (rv.mono (fun a o e => le8 a o (le6 a o e)) fun _ _ e => e).append (.cons r8' .nil)
  · obtain rfl : i = n := by (first | lia | omega)
    refine (TP.of ((itr h stand).done h o Sub.refl t.gi hst)).mono ?_
    rintro r h₄ ⟨rfl, s₄⟩
    obtain ⟨od, gd, ⟨es, nn, rfl⟩, hp⟩ := t.gd
    have sb : Sub [d] h₁ h₄ := fun b o nb e => s₄ _ _ (fun z => by
        obtain rfl : b = I := by simpa using z
        rw [nI] at e; cases e) (t.sub b o nb e)
    obtain ⟨l', el, H₂⟩ := H₁.turnC (b' := .mat d C fun _ _ => True) ok hM (.head _) (fun _ q => q) lkM hdM dict_nc dict_nc sb (s₄ _ _ (by simpa using dI) gd) fun l' hl' _ => ⟨xM, _, rfl, fxM, hl', ⟨es, nn, rfl⟩, fun _ _ => trivial⟩
    have H₃ : Holds X ((M, .mat d C fun _ _ => True) :: Γ) F1 m l' h₄ := H₂.grow t.le (fun a o e => by
      have f := t.fz a o e
      refine ⟨s₄ _ _ (by simpa using f.2.2.2.1) f.1, ?_⟩
      rcases t.fn a o e with q | q
      · exact (H₂.fz a o q).2
      · have f := H₁.s.fresh q
        exact ⟨f.2.1, el ▸ f.2.2⟩) fun a o e => by
      rcases t.fn a o e with q | q
      · exact H₂.fn a o q
      · exact .inr (H₁.s.fresh q).1
    have H₄ : Holds X ((M, .mat d C Pm) :: (M, .mat d C fun _ _ => True) :: Γ) F1 m l' h₄ := H₃.rebind (b' := .mat d C Pm) look_here (fun _ q => q) fun v ⟨x', od2, e1, e2, e3, e4, e5⟩ => by
      have := H₃.s.led _ e3
      rw [s₄ _ _ (by simpa using dI) gd] at this
      obtain rfl := Option.some.inj this
      exact ⟨x', _, e1, e2, e3, e4, fun F2 q => hp F2 q⟩
    have fr1 := H₁.fresh nacc
    obtain ⟨m1, oL, a1, a2, a3, a4⟩ := t.ns
    refine ⟨⟨m1, oL, a1, a2, s₄ _ _ (by simpa using IL.symm) a3, a4⟩, newL, F1, l', oa, t.le, H₄.weak fun y c e => ?_, s₄ _ _ (by simpa using dn) t.ga, ⟨fr1.new, fr1.offL, el ▸ fr1.offl, fun o e => (t.fz acc o e).2.2.1 rfl⟩, .list lv (Reps.safe rv (Safes.all fun x hx => ?_)), accL, fun a o e => (t.fz a o e).2.1, el⟩
    · by_cases hy : y = M
      · subst hy; rw [look_here] at e ⊢; exact e
      · rw [look_next hy rfl] at e ⊢
        rw [look_next hy rfl]; exact e
    · obtain ⟨j, hj, rfl⟩ := List.mem_map.mp hx
      exact hg j (List.mem_range.mp hj)
end
end Mine

end
section
open PySem PySem.W PyProof.Rows PySem.Calls
set_option Elab.async false
set_option linter.unusedVariables false
set_option maxRecDepth 100000
set_option maxHeartbeats 4000000
namespace Mine
section
variable {X : Fm} {Γ Γ' Γc : Ctx} {F F' : Store} {m : Str → Option Value} {l : List (Addr × Obj)} {h h' : Heap} {Q : Out → Prop} {rest : List Stmt} {s : Scope} {cn : List Str}
theorem ex_assignCompM (ok : FmOk X) (sc : Sc X s cn) (Γc : Ctx) {elt target iter : PySem.Expr} {scope : Scope} {pos py spos : Pos} {y : Str} {n : Nat} {P : Nat → PV} {M : Str} {d C : Addr} {Pm : Store → Obj → Prop} (g : Nat → PV)
    (hcell : compOk s cn scope = true) (hkind : scope.kind = .function) (hcc : CompCtx s scope Γ Γc) (hM : Γ.lookup M = some (.mat d C Pm)) (hMc : cellIn s scope M = true) (it : It X Γ iter target n P) (hn : n ≤ 1000000)
    (body : ∀ X' : Fm, FmOk X' → Sc X' (relabel scope (scEnv s)) (closN scope.names) → SameTop X X' → ∀ i, i < n → ∃ Γ1 Γ2, AsL X' ((M, .mat d C Pm) :: Γc) target (P i) Γ1 ∧ EM X' Γ1 elt (g i) Γ2 ∧ ∃ M', Γ2.lookup M' = some (.mat d C Pm))
    (hg : ∀ i, i < n → Safe (g i)) (hy : X.env.kindOf y = some .local) (hsw : swapsWith (.ListComp elt [⟨target, iter, [], 0⟩] scope pos) (some (.Name y py)) spos.line X.env = pure true)
    (r : ∀ a, a ∉ X.D → Ex X ((y, .own a (.list ((List.range n).map g))) :: (M, .mat d C Pm) :: Γ) rest Q)
    (hs : ∀ x, foldedSetIterable iter X.env x = pure x := by intro _; rfl) : Ex X Γ (.Assign [.Name y py] (.ListComp elt [⟨target, iter, [], 0⟩] scope pos) spos :: rest) Q := .cons fun F m l h H s₀ es hp₀ => by
  subst es
  have hc2 := hcell
  simp only [compOk, Bool.and_eq_true] at hc2
  obtain ⟨⟨k1, k2⟩, k3⟩ := hc2
  have hfree : ∀ y ∈ scope.names, y.2 = .free → (X.env.cells.lookup y.1).isSome = true := fun y hy hf => by
    have := List.all_eq_true.mp k3 y hy
    rw [hf] at this
    refine lookup_some_of_mem ?_
    rw [sc.c]
    simpa using this
  obtain ⟨hcell', hnames'⟩ := comp_looks k1 k2
  rw [exec_Assign_Name_used _ _ _ _ hsw]
  refine wpAny_bind (wpAny_standAt (wpAny_bind ?_))
  show wpAny _ X.A (do let _ ← comprehension (.ListComp elt [⟨target, iter, [], 0⟩] scope pos) scope X.env _ (newList []) false (eval iter X.env) (some (PySem.assign (.Name y py) X.env))) _ _ s₀
  refine wpAny_bind (wpAny_mono (wpAny_comprehension_free (use := some (PySem.assign (.Name y py) X.env)) (Q := fun _ s' => ∃ h' tk, s' = { s₀ with heap := h', toks := tk } ∧ 0 < tk ∧ OutOk X F (Kx X rest Q) .next h') rfl hs (closure_eq hfree) hkind hnames' (wpAny_mono (it F m l _ H _ rfl hp₀) ?_ fun _ _ z => z.elim)) (fun _ s' hq => wpAny_pure (wpAny_pure hq)) fun _ _ z => z)
  rintro xv s₁ ⟨h₁, t₁, rfl, hp₁, F₁, le₁, H₁, hit⟩
  refine wpAny_mono (hit _ rfl hp₁) ?_ fun _ _ z => z.elim
  rintro itv s₂ ⟨h₂, t₂, rfl, hp₂, I, oI, St, Pv, rfl, sub₂, nI, gI, st0, nv, itr, rp⟩
  refine comp_coreP (s := s₀) (RR := fun acc C => compPost (model X.prog X.w) X.A (fun _ _ => False) (some (PySem.assign (.Name y py) X.env)) (fun _ s' => ∃ h' tk, s' = { s₀ with heap := h', toks := tk } ∧ 0 < tk ∧ OutOk X F (Kx X rest Q) .next h') acc C) ok.e hcell' hkind hp₂ sub₂ nI gI st0 (itr h₁ fun a o e => (H₁.fz a o e).1) ?_
  intro env' acc oacc h₃ e' sc' cl' lacc HH
  refine (comp_loopM ok sc hcell hcc hM hMc body hg hn H₁ itr st0 rp e' sc' cl' lacc HH).mono ?_
  rintro h' ⟨⟨m₁, ns⟩, hC, F', l', o, le', H', ho, fr, oR, nC, FC, el⟩ tk hpk
  obtain ⟨f1, f2, f3⟩ := H₁.s.fresh hC
  have sp : Safe (.list ((List.range n).map g)) := Safes.all fun x hx => by
    obtain ⟨i, hi, rfl⟩ := List.mem_map.mp hx
    exact hg i (List.mem_range.mp hi)
  show wpAny _ _ (PySem.assign (.Name y py) X.env (.ref acc)) _ _ _
  refine wpAny_assign_Name (wpAny_mono (H'.putO ok (.inl hy) fr ho oR sp _ rfl hpk) ?_ fun _ _ z => z.elim)
  rintro _ s₄ ⟨h₄, t₄, rfl, hp₄, m', l'', H₄, q⟩
  obtain ⟨rfl, sb⟩ := q hy
  refine ⟨m₁, ?_, fun h₅ hs₅ => ⟨h₅, t₄, rfl, hp₄, _, F', m', l' ++ [(acc, o)], fun a o e => le' a o (le₁ a o e), ?_, r acc fun z => fr.offl (H'.s.dl _ z)⟩⟩
  · obtain ⟨oL, a1, a2, a3, a4⟩ := ns
    exact ⟨oL, a1, a2, sb _ _ (by simpa using f2) a3, a4⟩
  · refine H₄.off f1 f2 ?_ FC (Sub.same hs₅)
    rw [List.map_append, List.mem_append]
    exact fun q => q.elim (el ▸ f3) fun q => nC (List.mem_singleton.mp q).symm
end
end Mine

end
section
open PySem PySem.W PyProof.Rows PySem.Calls
set_option Elab.async false
set_option linter.unusedVariables false
set_option maxRecDepth 100000
set_option maxHeartbeats 4000000
namespace Mine
section
variable {prog : Program} {w : World} {A : Around} {h h' h₀ : Heap} {env : Env} {D : List Addr}
theorem p_SubListN {value idx : PySem.Expr} {pos : Pos} {Q : Value → Heap → Prop}
    (t : TP prog w A (eval value env) h fun o h₁ => TP prog w A (eval idx env) h₁ fun i h₂ => ∃ a vs k u x, o = .ref a ∧ i = .int k u ∧ h₂.IsList a (List.toArray vs) ∧ k < 0 ∧ -(vs.length : Int) ≤ k ∧ -(2 ^ 63) ≤ k ∧ vs[(k + vs.length).toNat]? = some x ∧ Q x h₂)
    (hsub : ∀ o i, subscripted idx false o i = operate [o, i] (getItem o i) := by intro _ _; rfl) : TP prog w A (eval (.Subscript value idx pos) env) h Q := fun s es hp => by
  rw [eval_Subscript]
  refine wpAny_bind (wpAny_mono (t s es hp) (fun o s₁ h₁ => ?_) fun _ _ x => x)
  obtain ⟨g₁, t₁, rfl, hp, h₁⟩ := h₁
  refine wpAny_bind (wpAny_holding (wpAny_mono (h₁ _ rfl hp) (fun i s₂ h₂ => wpAny_bind (wpAny_standAt ?_)) fun _ _ x => x))
  obtain ⟨g₂, t₂, rfl, hp, a, vs, k, u, x, rfl, rfl, hl, h0, h1, hk, hx, q⟩ := h₂
  have hT : (⟨g₂, s.gens, s.drawn, t₂, s.os⟩ : Shared).TypeIs (.ref a) "list" := hl.typeIs
  refine wpAny_bind ?_
  rw [getitemInPython_of_ne hT.not_modules]
  refine wpAny_bind (wpAny_specialOf hT PySem.F.slot_list_getitem.lookup ?_)
  have fin : wpAny (model prog w) A (operate [.ref a, .int k u] (getItem (.ref a) (.int k u))) (fun r s₃ => wpAny (model prog w) A (letTemporaryGo value (.ref a) r >>= fun _ => pure r) (fun a s' => ∃ h' tk, s' = { s with heap := h', toks := tk } ∧ 0 < tk ∧ Q a h') (fun _ _ => False) s₃) (fun _ _ => False) ⟨g₂, s.gens, s.drawn, t₂, s.os⟩ :=
    wpAny_operating (wpAny_getItem_list_neg hl h0 (by simpa using h1) hk (by simpa using hx) (wpAny_bind (wpAny_letTemporaryGo (wpAny_pure ⟨_, _, rfl, hp, q⟩))))
  have fin' := wpAny_bind fin
  rw [← hsub] at fin'
  exact wpAny_pure fin'
theorem p_SliceS {value : PySem.Expr} {lower upper step : Option PySem.Expr} {p pos : Pos} {Q : Value → Heap → Prop}
    (x : TP prog w A (eval value env) h fun o h₁ => TP prog w A (evalPart lower env) h₁ fun vl h₂ => TP prog w A (evalPart upper env) h₂ fun vu h₃ => TP prog w A (evalPart step env) h₃ fun vk h₄ => ∃ a vs lo hi st, o = .ref a ∧ h₄.IsList a (List.toArray vs) ∧ vs.length ≤ sizeLine ∧ IsPart vl lo ∧ IsPart vu hi ∧ IsPart vk st ∧ st ≠ some 0 ∧ ∀ r h' ob, Sub [] h₄ h' → h₄.get? r = none → h'.get? r = some ob → IsLst ob (slicePick vs.toArray lo hi st).toList → Q (.ref r) h')
    (hsub : ∀ o i, subscripted (.Slice lower upper step p) false o i = operate [o, i] (getItem o i) := by intro _ _; rfl) : TP prog w A (eval (.Subscript value (.Slice lower upper step p) pos) env) h Q := fun s es hp => by
  rw [eval_Subscript]
  refine wpAny_bind (wpAny_mono (x s es hp) ?_ fun _ _ z => z)
  rintro o s₁ ⟨h₁, t₁, rfl, hp, y⟩
  refine wpAny_bind (wpAny_holding (wpAny_Slice (wpAny_mono (y _ rfl hp) ?_ fun _ _ z => z)))
  rintro vl s₂ ⟨h₂, t₂, rfl, hp, y⟩
  refine wpAny_mono (y _ rfl hp) ?_ fun _ _ z => z
  rintro vu s₃ ⟨h₃, t₃, rfl, hp, y⟩
  refine wpAny_mono (y _ rfl hp) ?_ fun _ _ z => z
  rintro vk s₄ ⟨h₄, t₄, rfl, hp, a, vs, lo, hi, st, rfl, hl, hz, p1, p2, p3, h0, q⟩
  refine wpAny_bind (wpAny_standAt ?_)
  have hT : (⟨h₄.push { cls := .type "slice", data := .fields #[vl, vu, vk] }, s.gens, s.drawn, t₄, s.os⟩ : Shared).TypeIs (.ref a) "list" := (hl.push _).typeIs
  have got : wpAny (model prog w) A (getItem (.ref a) (.ref h₄.objs.size)) (fun r s' => ∃ h' tk, s' = { s with heap := h', toks := tk } ∧ 0 < tk ∧ Q r h') (fun _ _ => False) ⟨h₄.push { cls := .type "slice", data := .fields #[vl, vu, vk] }, s.gens, s.drawn, t₄, s.os⟩ := by
    refine wpAny_getItem_list_slice (hl.push _) (Heap.IsSliceOf.new ..) p1 p2 p3 h0 ?_ (by simpa using hz)
    rw [Heap.size_push]
    refine ⟨_, t₄, rfl, hp, q _ _ _ (fun b o _ eb => Heap.get?_push_of_some _ (Heap.get?_push_of_some _ eb)) ?_ ?_ ⟨0, by rw [Array.toArray_toList]⟩⟩
    · cases e : h₄.get? (h₄.objs.size + 1) with
      | none => rfl
      | some o => exact absurd (Heap.lt_size e) (Nat.not_lt.mpr (Nat.le_succ _))
    · have := get_push_self (h₄.push { cls := .type "slice", data := .fields #[vl, vu, vk] }) { cls := .type "list", data := .seq (slicePick vs.toArray lo hi st) }
      rwa [Heap.size_push] at this
  have fin : wpAny (model prog w) A (operate [.ref a, .ref h₄.objs.size] (getItem (.ref a) (.ref h₄.objs.size))) (fun r s₃ => wpAny (model prog w) A (letTemporaryGo value (.ref a) r >>= fun _ => pure r) (fun a s' => ∃ h' tk, s' = { s with heap := h', toks := tk } ∧ 0 < tk ∧ Q a h') (fun _ _ => False) s₃) (fun _ _ => False) ⟨h₄.push { cls := .type "slice", data := .fields #[vl, vu, vk] }, s.gens, s.drawn, t₄, s.os⟩ :=
    wpAny_operating (wpAny_mono got (fun r s₃ h₃ => wpAny_bind (wpAny_letTemporaryGo (wpAny_pure h₃))) fun _ _ x => x)
  refine wpAny_bind ?_
  rw [getitemInPython_of_ne hT.not_modules]
  refine wpAny_bind (wpAny_specialOf hT PySem.F.slot_list_getitem.lookup ?_)
  have fin' := wpAny_bind fin
  rw [← hsub] at fin'
  exact wpAny_pure fin'
end
section
variable {X : Fm} {Γ Γ' Γc : Ctx} {F F' : Store} {m : Str → Option Value} {l : List (Addr × Obj)} {h h' : Heap} {Q : Out → Prop} {rest body orelse : List Stmt} {s : Scope} {cn : List Str}
theorem E.subNeg (ok : FmOk X) {value idx : PySem.Expr} {pos : Pos} {p x : PV} {xs : List PV} {i : Int} (ev : E X Γ value p) (ei : E X Γ idx (.int i)) (il : IsL p xs) (h0 : i < 0) (h1 : -(xs.length : Int) ≤ i) (hz : xs.length ≤ 1000000) (hx : xs[(i + xs.length).toNat]? = some x) (hsub : ∀ o i, subscripted idx false o i = operate [o, i] (getItem o i) := by intro _ _; rfl) : E X Γ (.Subscript value idx pos) x := fun F m l h H =>
  p_SubListN ((ev F m l h H).mono fun u h₁ ⟨F₁, le₁, H₁, r₁⟩ => (ei F₁ m l h₁ H₁).mono fun v h₂ ⟨F₂, le₂, H₂, r₂⟩ => by
    obtain ⟨a, us, rfl, hl, rs⟩ := H₂.lst ok il (r₁.mono le₂ fun _ _ e => e)
    · obtain ⟨t, rfl⟩ := r₂.i
      obtain ⟨w, hw, rw⟩ := rs.get hx
      have len := rs.length
      exact ⟨a, us, i, t, w, rfl, rfl, hl, h0, by (first | lia | omega), by (first | lia | omega), by rw [len]; exact hw, F₂, fun a o e => le₂ a o (le₁ a o e), H₂, rw⟩) hsub
theorem N.every (ok : FmOk X) {value ek : PySem.Expr} {p pos : Pos} {pv : PV} {ns : List Int} {k : Int} (ev : E X Γ value pv) (e1 : E X Γ ek (.int k)) (il : IsL pv (ns.map .int)) (hk : k ≠ 0) (hz : ns.length ≤ 1000000) (hsub : ∀ o i, subscripted (.Slice none none (some ek) p) false o i = operate [o, i] (getItem o i) := by intro _ _; rfl) : N X Γ (.Subscript value (.Slice none none (some ek) p) pos) (.list ((pickNums ns none none (some k)).map .int)) := fun F m l h H =>
  p_SliceS ((ev F m l h H).mono fun o h₁ ⟨F₁, le₁, H₁, r₁⟩ => p_part0 (p_part0 (p_part1 ((e1 F₁ m l h₁ H₁).mono fun vl h₂ ⟨F₂, le₂, H₂, r₂⟩ => by
    obtain ⟨ad, vs, rfl, hl, rs⟩ := H₂.lst ok il (r₁.mono le₂ fun _ _ e => e)
    · obtain ⟨t, rfl⟩ := r₂.i
      have len := rs.length
      rw [List.length_map] at len
      refine ⟨ad, vs, none, none, some k, rfl, hl, by rw [sizeLine_eq]; (first | lia | omega), .none, .none, .int _ _, by simpa using hk, fun r h' ob sb n g lt => ⟨F₂, r, ob, fun a o e => le₂ a o (le₁ a o e), H₂.sub sb, rfl, g, H₂.fresh n, .list lt ?_⟩⟩
      exact Reps.ints (PyProof.Rows.IntsAre.pick rs.toInts none none (some k)))))) hsub
theorem ex_iteM {a b : PySem.Expr} {op : CmpOp} {pos pi : Pos} {x y : PV} {c : Bool} (em : EM X Γ a x Γ') (eb : E X Γ' b y) (k : Cmp X op x y c) (h1 : c = true → Ex X Γ' body (Kx X rest Q)) (h2 : c = false → Ex X Γ' orelse (Kx X rest Q)) (hm : behindInMarks op b = false := by with_unfolding_all rfl) : Ex X Γ (.If (.Compare a [op] [b] pos) body orelse pi :: rest) Q := .cons fun F m l h H =>
  TP.If (TP.isTrue_Compare ((em F m l h H).mono fun u h₁ ⟨F₁, m₁, l₁, le₁, H₁, r₁⟩ => (eb F₁ m₁ l₁ h₁ H₁).mono fun v h₂ ⟨F₂, le₂, H₂, r₂⟩ => (k Γ' F₂ m₁ l₁ h₂ u v H₂ (Rep.toRS (r₁.mono le₂ fun _ _ e => e)) r₂).mono fun r h₃ ⟨F₃, le₃, H₃, r₃⟩ => by
    obtain rfl := r₃.b
    refine TP.of (T.truthy_bool ?_)
    have le : ∀ a o, F a o → F₃ a o := fun a o e => le₃ a o (le₂ a o (le₁ a o e))
    cases c with
    | true => exact (h1 rfl F₃ m₁ l₁ h₃ H₃).mono fun f h₂ z => z.mono le fun _ q => q
    | false => exact (h2 rfl F₃ m₁ l₁ h₃ H₃).mono fun f h₂ z => z.mono le fun _ q => q) hm)
theorem ex_makeM (ok : FmOk X) (hK : X.K = frag X.w.params) {M f : Str} {pM pf pc pos : Pos} (ef : E X Γ (.Name f pf) (.raw (.ref aSM))) (hx : Sto X M) (r : ∀ d, Ex X ((M, .mat d aSM (MatE X.prog X.w)) :: Γ) rest Q)
    (hs : swapsWith (.Call (.Name f pf) [] [] pc) (some (.Name M pM)) pos.line X.env = Pure.pure false := by rfl) : Ex X Γ (.Assign [.Name M pM] (.Call (.Name f pf) [] [] pc) pos :: rest) Q := .cons fun F m l h H =>
  TP.Assign_Name (call_T ef .nil H (fun F₁ h₁ vs le₁ H₁ rs => by
    cases rs
    refine ⟨Keeps.frag (hK ▸ (H₁.gr ok).k) (by kernel_rfl!), ?_⟩
    have r3 := ok.room
    obtain ⟨hb, hb1, hb2, hb3⟩ := hole h₁ X.env.locals
    have HS : S hb [] X.env.locals m [] h₁ := { base := hb2, ns := H₁.s.ns, led := fun p hp => (nomatch hp), own := fun p hp => (nomatch hp), nodup := by simp, offL := by simp, newL := hb1, dl := fun d hd => (nomatch hd) }
    have G : Gr (frag X.w.params) hb := hK ▸ ok.gr hb fun b o nb e => hb3 b o (fun z => by
      obtain rfl : b = X.env.locals := by simpa using z
      rw [H₁.s.newL] at e; cases e) (H₁.s.base b o nb e)
    refine TP.of (make_matcher0 G HS ok.hh (by (first | lia | omega)) fun x dx h₂ od d dj dp S₂ ia keep => ?_)
    have gx : h₂.get? x = some (instObj aSM dx) := S₂.get (.head _)
    have gdx : h₂.get? dx = some od := S₂.get (.tail _ (.head _))
    have xd : x ≠ dx := by simpa using S₂.nodup
    have xL : x ≠ X.env.locals := fun z => S₂.offL (z ▸ by simp)
    have dL : dx ≠ X.env.locals := fun z => S₂.offL (z ▸ by simp)
    have new : ∀ {b : Addr}, b ≠ X.env.locals → hb.get? b = none → h₁.get? b = none := fun {b} nL e => by
      cases q : h₁.get? b with
      | none => rfl
      | some o => rw [hb3 b o (by simpa using nL) q] at e; cases e
    have fx := H₁.s.fresh (new xL ((S₂.own (x, _) (.head _)).resolve_left (by first | walk_at "mem" | simp)))
    have fd := H₁.s.fresh (new dL ((S₂.own (dx, _) (.tail _ (.head _))).resolve_left (by first | walk_at "mem" | simp)))
    have nx := new xL ((S₂.own (x, _) (.head _)).resolve_left (by first | walk_at "mem" | simp))
    have ndx := new dL ((S₂.own (dx, _) (.tail _ (.head _))).resolve_left (by first | walk_at "mem" | simp))
    have S₃ : S X.h₀ X.D X.env.locals m ((dx, od) :: l) h₂ := {
      base := fun b o nb e => keep b o (fun z => by rw [z, H₁.s.newL] at e; cases e) (H₁.s.base b o nb e)
      ns := S₂.ns
      led := fun p hp => by
        rcases List.mem_cons.mp hp with rfl | hp
        · exact gdx
        · exact keep _ _ (fun z => H₁.s.offL (z ▸ List.mem_map_of_mem hp)) (H₁.s.led p hp)
      own := fun p hp => by
        rcases List.mem_cons.mp hp with rfl | hp
        · exact .inr fd.1
        · exact H₁.s.own p hp
      nodup := by
        rw [List.map_cons, List.nodup_cons]
        exact ⟨fd.2.2, H₁.s.nodup⟩
      offL := by
        rw [List.map_cons, List.mem_cons]
        exact fun z => z.elim (fun z => dL z.symm) H₁.s.offL
      newL := H₁.s.newL
      dl := fun b hb => by
        rw [List.map_cons]
        exact .tail _ (H₁.s.dl b hb) }
    have H₃ : Holds X Γ (F₁.add x (instObj aSM dx)) m ((dx, od) :: l) h₂ := {
      s := S₃
      fz := fun a o e => by
        rcases e with e | ⟨rfl, rfl⟩
        · refine ⟨keep a o (H₁.fz a o e).2.1 (H₁.fz a o e).1, (H₁.fz a o e).2.1, fun z => ?_⟩
          rcases List.mem_cons.mp z with z | z
          · have := (H₁.fz a o e).1
            rw [show a = dx from z, ndx] at this; cases this
          · exact (H₁.fz a o e).2.2 z
        · exact ⟨gx, xL, fun z => by
            rcases List.mem_cons.mp z with z | z
            · exact xd z
            · exact fx.2.2 z⟩
      fn := fun a o e => e.elim (H₁.fn a o) fun ⟨e1, _⟩ => .inr (e1 ▸ fx.1)
      f0 := fun a o e => .inl (H₁.f0 a o e)
      nm := fun y b e => by
        obtain ⟨v, lk, bo⟩ := H₁.nm y b e
        exact ⟨v, lk.imp id fun ⟨c, o, k1, k2, k3, k4⟩ => ⟨c, o, k1, k2, k3.imp (fun q => .tail _ q) id, k4⟩, bo.mono (fun _ _ e => .inl e) fun _ _ _ q => .tail _ q⟩
      inj := H₁.inj
      cel := fun y c e1 e2 => by
        obtain ⟨o, v, h1, h2⟩ := H₁.cel y c e1 e2
        exact ⟨o, v, .tail _ h1, h2⟩ }
    have am0 : AmB (amT 404 405 d dj dp) := AmB.am2 ⟨by walk_at "look", by walk_at "look", rfl, rfl, rfl, rfl⟩
    have mp : ∀ F2 : Store, MatE X.prog X.w F2 od := fun F2 => ⟨(.txt, .txt), ⟨⟨_, _, _, ia, am0, by unfold amT am2; walk_at "look", .txt _, by unfold amT am2; walk_at "look", .txt _, .inl (by unfold amT am2; walk_at "look")⟩⟩⟩
    refine (H₃.put (v := .ref x) (b := .mat dx aSM (MatE X.prog X.w)) ok hx (fun l' kl => ⟨x, od, rfl, .inr ⟨rfl, rfl⟩, (kl dx od (.head _)).elim (fun ⟨u, hu⟩ => by obtain ⟨es, n, rfl⟩ := attrs_dict ia; cases hu) id, attrs_dict ia, fun F2 _ => mp F2⟩) fun b e1 y c hy hr e2 => ?_).mono fun _ h₃ ⟨m', l', H₄, _⟩ => ⟨_, _, m', l', fun a o e => .inl (le₁ a o e), H₄, r dx⟩
    obtain rfl : b = dx := by simpa [Bind.addrs] using e1
    obtain ⟨v, lk, bo⟩ := H₁.nm y c hr
    obtain ⟨o', h1, _⟩ := bo.mem e2
    exact fd.2.2 (List.mem_map_of_mem (f := (·.1)) h1)) rfl) hs
end
end Mine

end
section
open PySem PySem.W PyProof.Rows PySem.Calls
set_option Elab.async false
set_option linter.unusedVariables false
set_option maxRecDepth 100000
set_option maxHeartbeats 8000000
namespace Mine
section
variable {M : Model} {A : Around} {E : Value → Shared → Prop} {s₀ s : Shared} {L : Addr} {m cm : Str → Option Value} {env : Env}
theorem stLC1 {n : Str} {v : Value} {Q : Unit → Shared → Prop} (x : InCallC s₀ env.locals m env.cells cm s) (hk : env.scope.kind = .function) (hl : env.kindOf n = some .local)
    (h : ∀ s', InCallC s₀ env.locals (fun y => if y = n then some v else m y) env.cells cm s' → s.toks < s'.toks → Q () s') : wpAny M A (storeName env n v) Q E s := by
  refine wpAny_storeName_local hl x.toInCall.ns (fun h' hn' hs' => h _ ⟨⟨?_, hn', fun b o e => ?_, x.toInCall.fresh⟩, fun k c hc => ?_, x.apart, x.above⟩ (Nat.lt_succ_self _)) (by rw [hk]; rfl)
  · obtain ⟨h₁, tk, rfl⟩ := x.toInCall.same
    exact ⟨h', _, rfl⟩
  · exact hs'.extBut b o (Nat.ne_of_lt (Nat.lt_of_lt_of_le (Heap.lt_size e) x.toInCall.fresh)) (x.toInCall.keep b o e)
  · exact (x.cell k c hc).sameBut hs' (Nat.ne_of_gt (x.above k c (mem_of_lookup hc)))
theorem bindParams1 (f : Str × Value → PUnit → Sem (ForInStep PUnit)) (hf : ∀ n v u, f (n, v) u = (do storeName env n v; pure (.yield ⟨⟩))) (hk : env.scope.kind = .function)
    (n : Str) (v : Value) (m cm : Str → Option Value) (s : Shared) (Q : PUnit → Shared → Prop) (x : InCallC s₀ env.locals m env.cells cm s) (hl : env.kindOf n = some .local)
    (h : ∀ s', InCallC s₀ env.locals (bindL env.kindOf [(n, v)] m) env.cells (bindC env.kindOf [(n, v)] cm) s' → 0 < s'.toks → Q ⟨⟩ s') : wpAny M A (forIn [(n, v)] ⟨⟩ f) Q E s := by
  rw [List.forIn_cons, hf]
  refine wpAny_bind (wpAny_bind (stLC1 x hk hl fun s' x' lt => wpAny_pure ?_))
  show wpAny M A (forIn ([] : List (Str × Value)) PUnit.unit f) Q E s'
  rw [List.forIn_nil]
  refine wpAny_pure (h s' ?_ (Nat.lt_of_le_of_lt (Nat.zero_le _) lt))
  unfold bindL bindC; rw [if_pos hl, if_pos hl]; exact x'
end
section
variable {M : Model} {A : Around} {E : Value → Shared → Prop} {s : Shared}
theorem newFunctionEnv_cells1 {scope : Scope} {globals : Addr} {n0 : Str} {v0 : Value} {qual : Str} {func : Option Addr} {code : Value} {builtins : Addr} {Q : Env → Shared → Prop}
    (hk : scope.kind = .function)
    (hkind : scope.names.lookup n0 = some .local)
    (hQ : ∀ env, env = newEnv scope s.heap.objs.size globals (cellsFrom (s.heap.objs.size + 1) scope.names []) qual func code none builtins →
      ∀ s', InCallC s env.locals (bindL env.kindOf [(n0, v0)] fun _ => none) env.cells (bindC env.kindOf [(n0, v0)] fun _ => none) s' → 0 < s'.toks → Q env s') :
    wpAny M A (newFunctionEnv scope globals [] [(n0, v0)] qual func code none builtins) Q E s := by
  simp only [newFunctionEnv, Option.isSome_none, Bool.false_eq_true, if_false]
  refine wpAny_bind (wpAny_alloc ?_)
  refine wpAny_bind (wpAny_layCells _ (fun name kind cells => by cases hkc : kind == NameKind.cell <;> simp [hkc]) _ _ _ _ ?_)
  have ok := cellsFrom_ok scope.names (s.heap.push { cls := .type "frame", data := .dict #[] }) (s.heap.objs.size + 1) [] ⟨fun _ _ hm => (nomatch hm), List.Pairwise.nil⟩ (by rw [Heap.size_push]; exact Nat.le_refl _)
  rw [Heap.size_push] at ok
  rw [show ({ s with heap := s.heap.push { cls := .type "frame", data := .dict #[] } } : Shared).heap.objs.size = s.heap.objs.size + 1 from Heap.size_push ..]
  refine wpAny_bind (bindParams1 (s₀ := s) (env := newEnv scope s.heap.objs.size globals (cellsFrom (s.heap.objs.size + 1) scope.names []) qual func code none builtins)
    _ (fun _ _ _ => rfl) hk n0 v0 (fun _ => none) (fun _ => none) _ _
    ⟨⟨⟨_, _, rfl⟩, (Heap.Ns.new s.heap (.type "frame")).keeps (pushCells_keeps _ _), fun b o e => pushCells_keeps _ _ b o (Heap.get?_push_of_some _ e), Nat.le_refl _⟩,
      fun n c hc => (ok.empty n c (mem_of_lookup hc)).1, ok.apart, fun n c hm => (ok.empty n c hm).2⟩
    hkind fun s' x lt => wpAny_pure (hQ _ rfl s' x lt))
end
theorem call_cells1 {prog : Program} {w : World} {A : Around} {s : Shared} {R : Result → Shared → Prop} {a : Addr} {o : Obj} {fd : FuncData} {body : List Stmt} {vals : List Value} {n0 : Str} {v0 : Value}
    (hroom : A.depth < recursionLimit) (ho : s.heap.get? a = some o) (hdata : o.data = .func fd) (hlim : s.heap.NoLimit) (hcd : s.heap.CodeRec fd.code fd.qualname)
    (hbody : fd.body = .stmts body) (hbind : bindArgs fd ⟨vals, []⟩ = pure [(n0, v0)]) (hclo : fd.closure = [])
    (hkind : fd.scope.names.lookup n0 = some .local)
    (h : ∀ s₁, InCallC s (callEnvC fd s.heap.objs.size a).locals (bindL (callEnvC fd s.heap.objs.size a).kindOf [(n0, v0)] fun _ => none) (callEnvC fd s.heap.objs.size a).cells
        (bindC (callEnvC fd s.heap.objs.size a).kindOf [(n0, v0)] fun _ => none) s₁ → 0 < s₁.toks →
      wpAny (model prog w) (A.deeper (callEnvC fd s.heap.objs.size a)) (execs body (callEnvC fd s.heap.objs.size a)) (fun f s' => R (.ok (.ret (match f with | .ret v => v | _ => .none))) s')
        (fun e s' => wpAny (model prog w) (A.deeper (callEnvC fd s.heap.objs.size a)) (leaving (callEnvC fd s.heap.objs.size a) e) (fun _ s'' => R (.error e) s'') (fun e' s'' => R (.error e') s'') s') s₁)
    (hco : fd.scope.isCoroutine = false) (hgen : fd.scope.isGenerator = false) (hk : fd.scope.kind = .function) :
    codeAny (model prog w) A (.call (.ref a) ⟨vals, []⟩) R s := by
  refine codeAny_call_function hroom ho hdata hco hgen hbody hcd ?_
  rw [hbind, hclo]
  refine wpAny_pure (newFunctionEnv_cells1 hk hkind fun env he s' x lt => ?_)
  subst he
  exact ⟨hlim.keeps x.toInCall.keep, codeAny_func (h s' x lt)⟩
theorem call_cells2 {prog : Program} {w : World} {A : Around} {s : Shared} {R : Result → Shared → Prop} {a : Addr} {o : Obj} {fd : FuncData} {body : List Stmt} {vals : List Value} {binds : List (Str × Value)} {n0 : Str} {v0 : Value} (hb : binds = [(n0, v0)]) (hloc : fd.scope.names.lookup n0 = some .local)
    (hroom : A.depth < recursionLimit) (ho : s.heap.get? a = some o) (hdata : o.data = .func fd) (hlim : s.heap.NoLimit) (hcd : s.heap.CodeRec fd.code fd.qualname)
    (hbody : fd.body = .stmts body) (hbind : bindArgs fd ⟨vals, []⟩ = pure binds) (hclo : fd.closure = [])
    (h : ∀ s₁, InCallC s (callEnvC fd s.heap.objs.size a).locals (bindL (callEnvC fd s.heap.objs.size a).kindOf binds fun _ => none) (callEnvC fd s.heap.objs.size a).cells
        (bindC (callEnvC fd s.heap.objs.size a).kindOf binds fun _ => none) s₁ → 0 < s₁.toks →
      wpAny (model prog w) (A.deeper (callEnvC fd s.heap.objs.size a)) (execs body (callEnvC fd s.heap.objs.size a)) (fun f s' => R (.ok (.ret (match f with | .ret v => v | _ => .none))) s')
        (fun e s' => wpAny (model prog w) (A.deeper (callEnvC fd s.heap.objs.size a)) (leaving (callEnvC fd s.heap.objs.size a) e) (fun _ s'' => R (.error e) s'') (fun e' s'' => R (.error e') s'') s') s₁)
    (hco : fd.scope.isCoroutine = false) (hgen : fd.scope.isGenerator = false) (hk : fd.scope.kind = .function) :
    codeAny (model prog w) A (.call (.ref a) ⟨vals, []⟩) R s := by
  subst hb
  exact call_cells1 hroom ho hdata hlim hcd hbody hbind hclo hloc h hco hgen hk
theorem fn_run1 {prog : Program} {w : World} {A : Around} {h : Heap} {K : Frag} {f : Addr} {fd : FuncData} {body : List Stmt} {vs : List Value} {ns : List Str} {bs : List Bind} {F : Store} {lD : List (Addr × Obj)} (rd : Nat) (Q : PV → Ctx → Prop) (fk : FnOkC K f fd body) (hh : A.handled = none) (room : A.depth + 21 + rd < recursionLimit) (units : A.units + 30 + 10 * rd < cLine)
    (G : ∀ h', Sub (lD.map (·.1)) h h' → Gr K h') (std : ∀ a o, F a o → h.get? a = some o ∧ a ∉ lD.map (·.1)) (hl : ∀ p ∈ lD, h.get? p.1 = some p.2) (nd : (lD.map (·.1)).Nodup)
    (hbind : bindArgs fd ⟨vs, []⟩ = pure (ns.zip vs)) (hns : ns.Nodup) (hlen : ns.length = vs.length) {n0 : Str} {v0 : Value} (hone : ns.zip vs = [(n0, v0)]) (hloc : fd.scope.names.lookup n0 = some .local) (hkind : (ns.all fun x => decide (fd.scope.names.lookup x = some .local) || (decide (fd.scope.names.lookup x = some .cell) && (cellNames fd.scope.names []).contains x)) = true)
    (args : Args prog w F lD vs bs)
    (run : ∀ X : Fm, FmOk X → Sc X fd.scope (cellNames fd.scope.names []) → (∀ x c, X.env.cells.lookup x = some c → X.h₀.get? c = none) → X.prog = prog → X.w = w → X.K = K → X.D = lD.map (·.1) → X.rd = rd → Ex X (ns.zip bs) body fun o => match o with | .ret p Γ => Q p Γ | .next Γ => Q .none Γ | _ => False) :
    ∀ s : Shared, s.heap = h → codeAny (model prog w) A (.call (.ref f) ⟨vs, []⟩) (fun r s' => ∃ v h' tk, r = .ok (.ret v) ∧ s' = { s with heap := h', toks := tk } ∧ 0 < tk ∧ Ret prog w F h (lD.map (·.1)) Q v h') s := fun s₀ es => by
  obtain ⟨o, ho, hd⟩ := fk.lk
  have G0 := G _ Sub.refl
  refine fn_core rd Q fk hh room units G std hl nd hbind hns hlen hkind args run s₀ es fun R k => ?_
  subst es
  exact call_cells2 hone hloc (by (first | lia | omega)) (G0.k _ _ ho) hd G0.nolimit (codeRec_of G0.k fk.cd) fk.body hbind fk.clo (fun s₁ XC leT => k s₁ XC leT) fk.co fk.gen fk.kind
end Mine

end
section
open PySem PySem.W PyProof.Rows PySem.Calls
set_option Elab.async false
set_option linter.unusedVariables false
set_option maxRecDepth 100000
set_option maxHeartbeats 4000000
namespace Mine
theorem fn_law (P : Params) : FnOkC (frag P) at_law fdOf_law (bodyN (stN pwBody 12)) :=
  ⟨⟨obOf_law P, by kernel_rfl!, rfl⟩, by kernel_rfl!, by kernel_rfl!, by kernel_rfl!, by kernel_rfl!, by kernel_rfl!, by kernel_rfl!, by kernel_rfl!, by kernel_rfl!⟩
theorem Ret.weakM {prog : Program} {w : World} {F : Store} {h h' : Heap} {D : List Addr} {v : Value} {r : PV} {d C : Addr} {P P' : Store → Obj → Prop} (x : Ret prog w F h D (fun p Γ => p = r ∧ ∃ M, Γ.lookup M = some (.mat d C P)) v h') (hw : ∀ F od, P F od → P' F od) : Ret prog w F h D (fun p Γ => p = r ∧ ∃ M, Γ.lookup M = some (.mat d C P')) v h' := by
  obtain ⟨⟨p, Γ', F', le, st, rep, ⟨rfl, M, hM⟩, mats⟩, sb⟩ := x
  refine ⟨⟨p, [(M, .mat d C P')], F', le, st, rep, ⟨rfl, M, look_here⟩, fun x d' C' P'' e => ?_⟩, sb⟩
  by_cases hx : x = M
  · subst hx
    rw [look_here] at e; cases e
    obtain ⟨od, e1, e2, e3⟩ := mats _ _ _ _ hM
    exact ⟨od, e1, e2, fun F2 q => hw _ _ (e3 F2 q)⟩
  · rw [look_next hx rfl] at e; cases e
theorem sw_compL {elt : PySem.Expr} {gens : List Comprehension} {scope : Scope} {pos py : Pos} {y : Str} {line : Nat} (e : EnvOk env) (hy : env.kindOf y = some .local) (hl : (py.line == pos.line) = true) (hn : (scope.names.any fun x => x.1 == y && (x.2 == .local || x.2 == .cell)) = false) : swapsWith (.ListComp elt gens scope pos) (some (.Name y py)) line env = pure true := by
  show (pure (env.blockKind == .function && env.kindOf y == some .local && py.line == pos.line && !(scope.names.any fun x => x.1 == y && (x.2 == .local || x.2 == .cell))) : Sem Bool) = pure true
  rw [blockKind_of e, hy, hl, hn]
  rfl
noncomputable def half (ns : List Int) : List Int := pickNums ns none none (some 2)
noncomputable def askedL (L : List (List Int)) : List (List Int) := L ++ (List.range 8).map fun k => L.getD k [] ++ half (L.getD ((k + 7) % 8) [])
theorem half_len {ns : List Int} : (half ns).length ≤ ns.length := by
  have : IntsAre (ns.map fun n => Value.int n 0) ns := by
    induction ns with
    | nil => exact .nil
    | cons n r ih => exact .cons n 0 ih
  exact length_pickNums_le this none none (some 2)
theorem half_mem {ns : List Int} {x : Int} (h : x ∈ half ns) : x ∈ ns := by
  unfold half pickNums at h
  obtain ⟨j, _, hj⟩ := List.mem_filterMap.mp h
  exact List.mem_of_getElem? hj
noncomputable abbrev lV (r : List Int) : PV := .list (r.map .int)
theorem asked_ok {L : List (List Int)} (hL : L.length = 8) (h4 : ∀ r ∈ L, In4 r) (hs : ∀ r ∈ L, r.length < 70) : ∀ r ∈ askedL L, In4 r ∧ r.length < 150 := fun r hr => by
  have at8 : ∀ i, i < 8 → L.getD i [] ∈ L := fun i hi => by
    have : L.getD i [] = L[i] := by simp [hL, hi]
    rw [this]; exact List.getElem_mem _
  rcases List.mem_append.mp hr with q | q
  · exact ⟨h4 r q, by have := hs r q; (first | lia | omega)⟩
  · obtain ⟨k, hk, rfl⟩ := List.mem_map.mp q
    have hk := List.mem_range.mp hk
    have m1 := at8 k hk
    have m2 := at8 ((k + 7) % 8) (by (first | lia | omega))
    refine ⟨fun x hx => ?_, ?_⟩
    · rcases List.mem_append.mp hx with z | z
      · exact h4 _ m1 x z
      · exact h4 _ m2 x (half_mem z)
    · rw [List.length_append]
      have a := hs _ m1
      have b := hs _ m2
      have c := half_len (ns := L.getD ((k + 7) % 8) [])
      (first | lia | omega)
theorem safe_lists (L : List (List Int)) : Safes (L.map lV) := .all fun x hx => by
  obtain ⟨r, _, rfl⟩ := List.mem_map.mp hx
  exact Safes.ints r
noncomputable def forIter : Stmt → PySem.Expr
  | .For _ i _ _ _ => i
  | _ => .Constant .none 0 ⟨0, 0, 0, 0⟩
noncomputable def binRight : PySem.Expr → PySem.Expr
  | .BinOp _ _ b _ => b
  | e => e
noncomputable def compElt : PySem.Expr → PySem.Expr
  | .ListComp e _ _ _ => e
  | e => e
noncomputable def subVal0 : PySem.Expr → PySem.Expr
  | .Subscript v _ _ => v
  | e => e
theorem It.num {X : Fm} {Γ : Ctx} {iter target : PySem.Expr} {n n' : Nat} {P : Nat → PV} (e : n = n') (x : It X Γ iter target n P) : It X Γ iter target n' P := e ▸ x
theorem law_run {prog : Program} {w : World} {script : List Int} (hs : script.length ≤ 63) {A : Around} {h : Heap} {F : Store} {vs : List Value} (hh : A.handled = none) (room : A.depth + 21 + 2 < recursionLimit) (units : A.units + 30 + 10 * 2 < cLine) (G : Gr (frag w.params) h) (std : ∀ a o, F a o → h.get? a = some o)
    (args : Args prog w F [] vs ([PV.list (script.map .int)].map .fz)) : ∀ s : Shared, s.heap = h → codeAny (model prog w) A (.call (.ref at_law) ⟨vs, []⟩) (fun r s' => ∃ v h' tk, r = .ok (.ret v) ∧ s' = { s with heap := h', toks := tk } ∧ 0 < tk ∧ Ret prog w F h [] (fun p _ => p = .bool true) v h') s := by
  obtain ⟨v1, rfl⟩ : ∃ v1, vs = [v1] := by
    cases args with | fz _ a => cases a; exact ⟨_, rfl⟩
  refine (fn_run1 (lD := []) (ns := [(Str.ofString "script")]) 2 (fun r _ => r = .bool true) (fn_law w.params) hh room units (fun h' s => G.sub s) (fun a o e => ⟨std a o e, by simp⟩) (by first | walk_at "mem" | simp) (by first | walk_at "mem" | simp) ?_ (by decide +kernel) rfl (n0 := (Str.ofString "script")) (v0 := v1) rfl (by kernel_rfl!) (by kernel_rfl!) args ?_)
  · kernel_rfl!
  · intro X ok sc cnew e1 e2 e3 e4 e5
    have hK : X.K = frag X.w.params := by rw [e3, e2]
    show Ex X [((Str.ofString "script"), .fz (.list (script.map .int)))] _ _
    have gb : ∀ {Γ : Ctx} {x : Str} {v : Value} {pos : Pos}, nsIn (frag X.w.params) mainGlobals x = some none → bootBuiltins x = some v → fdOf_law.scope.names.lookup x = some .globalImplicit → (x == ("__debug__" : Str)) = false → x ≠ "__name__" → E X Γ (.Name x pos) (.raw v) := fun a b c d e => E.builtin ok (hK ▸ a) b ((sc.kind _).trans c) d e
    have gl : ∀ {Γ : Ctx} {x : Str} {v : Value} {pos : Pos}, nsIn (frag X.w.params) mainGlobals x = some (some v) → fdOf_law.scope.names.lookup x = some .globalImplicit → (x == ("__debug__" : Str)) = false → E X Γ (.Name x pos) (.raw v) := fun a c d => E.global ok (hK ▸ a) ((sc.kind _).trans c) d
    refine Ex.assign ok (p := .list ((lists8 script).map lV)) (E.callF (rd := 0) (ps := [.list (script.map .int)]) ok (gl (v := .ref at_law_lists) (by kernel_rfl!) (by kernel_rfl!) (by decide +kernel)) (.cons (by walk_at "en") .nil) ⟨Safes.ints script, trivial⟩ (by rw [hK]; kernel_rfl!) (by (first | lia | omega)) (hK ▸ law_lists (by (first | lia | omega))) rfl) (safe_lists _) (Sto.cell sc cnew (by kernel_rfl!) (by kernel_rfl!)) ?_
    have hL := lists8_eight (s := script)
    have h4 := lists8_in4 (s := script)
    have hsh : ∀ r ∈ lists8 script, r.length < 70 := fun r hr => by have := lists8_short r hr; (first | lia | omega)
    have hne := lists8_ne (s := script)
    generalize lists8 script = L at *
    have at8 : ∀ i, i < 8 → L.getD i [] ∈ L := fun i hi => by
      have : L.getD i [] = L[i] := by simp [hL, hi]
      rw [this]; exact List.getElem_mem _
    have lv : ∀ i, i < 8 → (L.map lV)[i]? = some (lV (L.getD i [])) := fun i hi => by
      have : i < L.length := by (first | lia | omega)
      simp [this]
    obtain ⟨q, hq, q1, q2⟩ : ∃ q : Nat, 1 + (script.sum + 30).fmod 12 = (q : Int) ∧ 1 ≤ q ∧ q ≤ 12 := by
      have a := Int.fmod_nonneg_of_pos (script.sum + 30) (b := 12) (by (first | lia | omega))
      have b := Int.fmod_lt_of_pos (script.sum + 30) (b := 12) (by (first | lia | omega))
      exact ⟨(1 + (script.sum + 30).fmod 12).toNat, by (first | lia | omega), by (first | lia | omega), by (first | lia | omega)⟩
    refine Ex.assign ok (p := .int q) (E.eq (x := .int (1 + (script.sum + 30).fmod 12)) (by rw [hq]) (E.add E.cInt (E.mod (E.add (E.sum ok (gb (by kernel_rfl!) (by kernel_rfl!) (by kernel_rfl!) (by decide +kernel) (by decide +kernel)) (by walk_at "en") (.list _) rfl) E.cInt) E.cInt (by decide)))) (by simp [Safe]) (by walk_at "ld") ?_
    obtain ⟨p, hp, p1, p2⟩ : ∃ p : Nat, 1 + ((script.sum + 30).fdiv 12).fmod q = (p : Int) ∧ 1 ≤ p ∧ p ≤ q := by
      have a := Int.fmod_nonneg_of_pos ((script.sum + 30).fdiv 12) (b := q) (by (first | lia | omega))
      have b := Int.fmod_lt_of_pos ((script.sum + 30).fdiv 12) (b := q) (by (first | lia | omega))
      exact ⟨(1 + ((script.sum + 30).fdiv 12).fmod q).toNat, by (first | lia | omega), by (first | lia | omega), by (first | lia | omega)⟩
    refine Ex.assign ok (p := .int p) (E.eq (x := .int (1 + ((script.sum + 30).fdiv 12).fmod q)) (by rw [hp]) (E.add E.cInt (E.mod (E.fdiv (E.add (E.sum ok (gb (by kernel_rfl!) (by kernel_rfl!) (by kernel_rfl!) (by decide +kernel) (by decide +kernel)) (by walk_at "en") (.list _) rfl) E.cInt) E.cInt (by decide) (by decide)) (by walk_at "en") (by (first | lia | omega))))) (by simp [Safe]) (by walk_at "ld") ?_
    refine ex_makeM ok hK (gl (by kernel_rfl!) (by kernel_rfl!) (by decide +kernel)) (Sto.cell sc cnew (by kernel_rfl!) (by kernel_rfl!)) fun d => ?_
    have cut : ((L.map lV).drop 1).take (4 - 1) = ((List.range 3).map fun i => L.getD (i + 1) []).map lV := by
      rw [← List.map_drop, ← List.map_take]
      congr 1
      refine List.ext_getElem (by simp [hL]) fun i h1 h2 => ?_
      simp at h1 h2
      simp [hL, show i + 1 < 8 by (first | lia | omega), Nat.add_comm]
    refine ex_assignCompM ok sc [((Str.ofString "lists"), .fz (.list (L.map lV)))] (M := (Str.ofString "matcher")) (d := d) (C := aSM) (Pm := MatE X.prog X.w) (n := 3) (P := fun i => lV (L.getD (i + 1) [])) (fun i => tabV L (L.getD (i + 1) [])) (by kernel_rfl!) (by kernel_rfl!) (cctx_cons (b := .fz (.list (L.map lV))) (by walk_at "lk") (by kernel_rfl!) rfl cctx_nil) (by walk_at "lk") (by kernel_rfl!) ?_ (by (first | lia | omega)) ?_ (fun i hi => ?_) ((sc.kind _).trans (by kernel_rfl!)) (sw_compL ok.e ((sc.kind _).trans (by kernel_rfl!)) rfl (by kernel_rfl!)) fun a hD => ?_
    · refine It.num (n := (((List.range 3).map fun i => L.getD (i + 1) []).map lV).length) (by first | walk_at "mem" | simp) ?_
      exact It.listN (P := fun i => lV (L.getD (i + 1) [])) ok (E.eq (by rw [cut]) (E.ofN (N.slice ok (by walk_at "en") E.cInt E.cInt (.list _) (by simp [hL]) (by (first | lia | omega)) (by simp [hL])))) (safe_lists _) (fun i hi => by simp at hi; simp [hi])
    · -- a pivot's row
      intro X' ok' sc' top i hi
      have hK' : X'.K = frag X'.w.params := by rw [top.K, top.w, hK]
      have em : MatE X.prog X.w = MatE X'.prog X'.w := by rw [top.prog, top.w]
      rw [em]
      refine ⟨[((Str.ofString "pivot"), .fz (lV (L.getD (i + 1) []))), ((Str.ofString "matcher"), .mat d aSM (MatE X'.prog X'.w)), ((Str.ofString "lists"), .fz (.list (L.map lV)))], _, AsL.name ok' ((sc'.kind _).trans (by kernel_rfl!)), EM.callM (rd := 0) (P := MatE X'.prog X'.w) (P' := MatE X'.prog X'.w) (ps := [.list (L.map lV), lV (L.getD (i + 1) [])]) ok' (E.global (v := .ref at_law_gaps) ok' (by rw [hK']; kernel_rfl!) ((sc'.kind _).trans (by kernel_rfl!)) (by decide +kernel)) (by walk_at "lk") (by decide +kernel) (.cons (by walk_at "en") (.cons (by walk_at "en") .nil)) ⟨safe_lists L, Safes.ints _, trivial⟩ (by rw [hK']; kernel_rfl!) (by rw [top.rd]; (first | lia | omega)) rfl ?_, (Str.ofString "matcher"), look_here⟩
      intro h F vs lD a1 a2 a3 a4 a5 a6 a7 a8
      refine (law_gaps (ms := L.getD (i + 1) []) (fun r hr => by have := hsh r hr; (first | lia | omega)) (by have := hsh _ (at8 (i + 1) (by (first | lia | omega))); (first | lia | omega)) (.inl (hne i hi)) (by (first | lia | omega)) a1 (by (first | lia | omega)) (by (first | lia | omega)) (hK' ▸ a4) a5 a6 a7 a8).mono fun v h' z => z.weakM fun F od x => let ⟨a, y⟩ := x; ⟨(a, _), y⟩
    · refine Safes.all fun x hx => ?_
      obtain ⟨r, _, rfl⟩ := List.mem_map.mp hx
      simp [Safe, Safes]
    · refine Ex.freeze ok hD (x := (Str.ofString "table")) (a := a) (by walk_at "lk") ?_
      have aok := asked_ok hL h4 hsh
      have icomp : ∀ {Γ : Ctx}, Γ.lookup (Str.ofString "lists") = some (.fz (.list (L.map lV))) → E X Γ (binRight (forIter (stN (bodyN (stN pwBody 12)) 5))) (.list (((List.range 8).filter fun _ => true).map fun k => lV (L.getD k [] ++ half (L.getD ((k + 7) % 8) [])))) := fun {Γ} lk => by
        refine E.ofN (N.comp ok sc [((Str.ofString "lists"), .fz (.list (L.map lV)))] (fun _ => true) (fun k => lV (L.getD k [] ++ half (L.getD ((k + 7) % 8) []))) (by kernel_rfl!) (by kernel_rfl!) (cctx_cons (b := .fz (.list (L.map lV))) lk (by kernel_rfl!) rfl cctx_nil) (It.toC (It.range1 (n := 8) ok (gb (by kernel_rfl!) (by kernel_rfl!) (by kernel_rfl!) (by decide +kernel) (by decide +kernel)) E.cInt (by (first | lia | omega)) rfl)) (by (first | lia | omega)) ?_ (fun k _ _ => Safes.ints _))
        intro X' ok' sc' top k hk
        refine ⟨[((Str.ofString "k"), .fz (.int k)), ((Str.ofString "lists"), .fz (.list (L.map lV)))], ?_, ?_, AsL.name ok' ((sc'.kind _).trans (by kernel_rfl!)), TB.nil, fun _ => ?_⟩
        · intro x b e
          simp only [List.lookup_cons] at e
          repeat' split at e
          all_goals first | (cases e; rfl) | simp at e
        · walk_at "sb"
        · have l1 := hsh _ (at8 k hk)
          have l2 := hsh _ (at8 ((k + 7) % 8) (by (first | lia | omega)))
          have l3 := half_len (ns := L.getD ((k + 7) % 8) [])
          have prev : E X' [((Str.ofString "k"), .fz (.int k)), ((Str.ofString "lists"), .fz (.list (L.map lV)))] (subVal0 (binRight (compElt (binRight (forIter (stN (bodyN (stN pwBody 12)) 5)))))) (lV (L.getD ((k + 7) % 8) [])) := by
            rcases Nat.eq_zero_or_pos k with z | z
            · subst z
              refine E.subNeg ok' (i := ((0 : Nat) : Int) - 1) (by walk_at "en") (E.sub (by walk_at "en") E.cInt) (.list _) (by (first | lia | omega)) (by simp [hL]) (by simp [hL]) ?_
              have : ((((0 : Nat) : Int) - 1 + ((L.map lV).length : Nat))).toNat = 7 := by simp [hL]
              rw [this]; exact lv 7 (by (first | lia | omega))
            · refine E.subL ok' (i := (k : Int) - 1) (by walk_at "en") (E.sub (by walk_at "en") E.cInt) (.list _) (by (first | lia | omega)) (by (first | lia | omega)) ?_
              have e1 : ((k : Int) - 1).toNat = k - 1 := by (first | lia | omega)
              have e2 : (k + 7) % 8 = k - 1 := by (first | lia | omega)
              rw [e1, e2]; exact lv _ (by (first | lia | omega))
          refine E.ofN (N.eq (x := .list ((L.getD k []).map .int ++ (half (L.getD ((k + 7) % 8) [])).map .int)) (by rw [← List.map_append]) (N.cat ok' (E.subL ok' (i := (k : Int)) (x := lV (L.getD k [])) (by walk_at "en") (by walk_at "en") (.list _) (by (first | lia | omega)) (by (first | lia | omega)) (lv k hk)) (E.ofN (N.every (k := 2) ok' prev E.cInt (.list _) (by decide) (by (first | lia | omega)))) (.list _) (.list _) (by rw [List.length_map, List.length_map]; (first | lia | omega))))
      have eqA : L.map lV ++ (((List.range 8).filter fun _ => true).map fun k => lV (L.getD k [] ++ half (L.getD ((k + 7) % 8) []))) = (askedL L).map lV := by
        have : ((List.range 8).filter fun _ => true) = List.range 8 := by simp
        rw [this, askedL, List.map_append, List.map_map]; rfl
      generalize htb : (List.range 3).map (fun i => tabV L (L.getD (i + 1) [])) = tb
      refine Ex.forIn ok (n := ((askedL L).map lV).length) (P := fun i => lV ((askedL L).getD i [])) (It.listN ok (E.eq (by rw [eqA]) (E.ofN (N.cat ok (by walk_at "en") (icomp (by walk_at "lk")) (.list _) (.list _) (by rw [List.length_map, hL, List.length_map]; exact Nat.le_trans (Nat.add_le_add_left (List.length_filter_le _ _) _) (by first | walk_at "mem" | simp))))) (safe_lists _) (fun i hi => ?_))
        (fun _ => [((Str.ofString "table"), .fz (.list tb)), ((Str.ofString "matcher"), .mat d aSM (MatE X.prog X.w)), ((Str.ofString "p"), .fz (.int p)), ((Str.ofString "q"), .fz (.int q)), ((Str.ofString "lists"), .fz (.list (L.map lV)))])
        (fun i => [((Str.ofString "asked"), .fz (lV ((askedL L).getD i []))), ((Str.ofString "table"), .fz (.list tb)), ((Str.ofString "matcher"), .mat d aSM (MatE X.prog X.w)), ((Str.ofString "p"), .fz (.int p)), ((Str.ofString "q"), .fz (.int q)), ((Str.ofString "lists"), .fz (.list (L.map lV)))]) (by walk_at "sb") (fun i _ => As.name ok (by walk_at "ld")) (fun i hi => ?_) ?_
      · have : i < (askedL L).length := by simpa using hi
        simp [this]
      · have hi' : i < (askedL L).length := by simpa using hi
        have mem : (askedL L).getD i [] ∈ askedL L := by
          have : (askedL L).getD i [] = (askedL L)[i] := by simp [hi']
          rw [this]; exact List.getElem_mem _
        obtain ⟨i4, il⟩ := aok _ mem
        generalize (askedL L).getD i [] = asked at *
        refine Ex.assignN ok (p := .list []) (N.disp ok .nil rfl (by decide)) (by simp [Safe, Safes]) (by walk_at "ld") fun b hDb => ?_
        refine Ex.forIn ok (n := 8) (P := fun k => .int k) (It.range1 ok (gb (by kernel_rfl!) (by kernel_rfl!) (by kernel_rfl!) (by decide +kernel) (by decide +kernel)) (E.eq (x := .int ((L.map lV).length : Nat)) (by rw [List.length_map, hL]) (E.len ok (gb (by kernel_rfl!) (by kernel_rfl!) (by kernel_rfl!) (by decide +kernel) (by decide +kernel)) (by walk_at "en") (.list _) (by simp [hL]) rfl)) (by (first | lia | omega)) rfl)
          (fun k => [((Str.ofString "due"), .own b (.list (((List.range k).filter fun k => isDue L asked p q k).map (dueV L asked)))), ((Str.ofString "asked"), .fz (lV asked)), ((Str.ofString "table"), .fz (.list tb)), ((Str.ofString "matcher"), .mat d aSM (MatE X.prog X.w)), ((Str.ofString "p"), .fz (.int p)), ((Str.ofString "q"), .fz (.int q)), ((Str.ofString "lists"), .fz (.list (L.map lV)))])
          (fun k => [((Str.ofString "k"), .fz (.int k)), ((Str.ofString "due"), .own b (.list (((List.range k).filter fun k => isDue L asked p q k).map (dueV L asked)))), ((Str.ofString "asked"), .fz (lV asked)), ((Str.ofString "table"), .fz (.list tb)), ((Str.ofString "matcher"), .mat d aSM (MatE X.prog X.w)), ((Str.ofString "p"), .fz (.int p)), ((Str.ofString "q"), .fz (.int q)), ((Str.ofString "lists"), .fz (.list (L.map lV)))]) ?_ (fun k _ => As.name ok (by walk_at "ld")) (fun k hk => ?_) ?_
        · show ∀ x b, _ → _
          have z0 : (((List.range 0).filter fun k => isDue L asked p q k).map (dueV L asked)) = [] := rfl
          rw [z0]
          walk_at "sb"
        · have hkL := hsh _ (at8 k hk)
          have sub : ∀ {Γ : Ctx} {p1 p2 p3 : Pos}, Γ.lookup (Str.ofString "lists") = some (.fz (.list (L.map lV))) → Γ.lookup (Str.ofString "k") = some (.fz (.int k)) → E X Γ (.Subscript (.Name (Str.ofString "lists") p1) (.Name (Str.ofString "k") p2) p3) (lV (L.getD k [])) := fun h1 h2 => E.subL ok (i := (k : Int)) (E.name ok h1 (by decide +kernel)) (E.name ok h2 (by decide +kernel)) (.list _) (by (first | lia | omega)) (by (first | lia | omega)) (lv k hk)
          have l1 := qm_le asked (L.getD k []) []
          have step : ((List.range (k + 1)).filter fun k => isDue L asked p q k).map (dueV L asked) = ((List.range k).filter fun k => isDue L asked p q k).map (dueV L asked) ++ (if isDue L asked p q k = true then [dueV L asked k] else []) := by
            rw [List.range_succ, List.filter_append, List.map_append]
            congr 1
            by_cases hb : isDue L asked p q k = true
            · rw [if_pos hb]; simp [List.filter_cons, hb]
            · rw [if_neg hb]
              have hb' : isDue L asked p q k = false := by simpa using hb
              simp [List.filter_cons, hb']
          refine Ex.assign ok (p := .int (((L.getD k []).length + asked.length : Nat) : Int)) (E.eq (x := .int ((((L.getD k []).map PV.int).length : Int) + ((asked.map PV.int).length : Int))) (by rw [List.length_map, List.length_map]; congr 1) (E.add (E.len ok (gb (by kernel_rfl!) (by kernel_rfl!) (by kernel_rfl!) (by decide +kernel) (by decide +kernel)) (sub (by walk_at "lk") (by walk_at "lk")) (.list _) (by rw [List.length_map]; (first | lia | omega)) rfl) (E.len ok (gb (by kernel_rfl!) (by kernel_rfl!) (by kernel_rfl!) (by decide +kernel) (by decide +kernel)) (by walk_at "en") (.list _) (by rw [List.length_map]; (first | lia | omega)) rfl))) (by simp [Safe]) (by walk_at "ld") ?_
          refine Ex.assign ok (p := .int (qm asked [] (L.getD k []) : Nat)) (E.callF (rd := 0) (ps := [lV (L.getD k []), lV asked]) ok (gl (v := .ref at_law_common) (by kernel_rfl!) (by kernel_rfl!) (by decide +kernel)) (.cons (sub (by walk_at "lk") (by walk_at "lk")) (.cons (by walk_at "en") .nil)) ⟨Safes.ints _, Safes.ints _, trivial⟩ (by rw [hK]; kernel_rfl!) (by (first | lia | omega)) (hK ▸ law_common (by (first | lia | omega)) (by (first | lia | omega))) rfl) (by simp [Safe]) (by walk_at "ld") ?_
          refine Ex.ite (c := isDue L asked p q k) (B.eq ?_ (B.compare (E.mulII (E.mulII E.cInt (by walk_at "en") (mulL (by (first | lia | omega)) (by (first | lia | omega)))) (by walk_at "en") (mulR (by (first | lia | omega)) (by (first | lia | omega)))) (E.mulII (by walk_at "en") (by walk_at "en") (mulL (by (first | lia | omega)) (by (first | lia | omega)))) Cmp.ge)) (fun c => ?_) (fun c => Ex.nil (Ex.nil ?_))
          · exact decide_eq_decide.mpr ⟨fun h => by exact_mod_cast h, fun h => by exact_mod_cast h⟩
          · refine Ex.append ok (p := dueV L asked k) (by walk_at "lk") (E.tup ok (.cons (by walk_at "en") (.cons (p := shareV L asked k) (E.ifExp (b := decide ((0 : Int) < (((L.getD k []).length + asked.length : Nat) : Int))) (B.compare (by walk_at "en") E.cInt Cmp.gt) (fun c2 => ?_) (fun c2 => ?_)) (.cons E.cBool .nil))) rfl (by decide)) ?_ ?_ rfl (by decide +kernel) (fun Q' h t => TP.Call_method t) (Ex.nil (Ex.nil ?_))
            · have c2 := of_decide_eq_true c2
              refine E.eq ?_ (E.divII (E.mulII E.cInt (by walk_at "en") (mulL (by (first | lia | omega)) (by (first | lia | omega)))) (by walk_at "en") ?_ (by (first | lia | omega)))
              · unfold shareV
                rw [if_pos (by (first | lia | omega))]
                have f1 : decide ((2 : Int) * (qm asked [] (L.getD k []) : Nat) < 0) = false := decide_eq_false (by (first | lia | omega))
                have f2 : decide ((((L.getD k []).length + asked.length : Nat) : Int) < 0) = false := decide_eq_false (by (first | lia | omega))
                have f3 : ((2 : Int) * (qm asked [] (L.getD k []) : Nat)).natAbs = 2 * qm asked [] (L.getD k []) := by (first | lia | omega)
                rw [f1, f2, f3, Int.natAbs_natCast]; rfl
              · have : ((2 : Int) * (qm asked [] (L.getD k []) : Nat)).natAbs ≤ 1000000 := by (first | lia | omega)
                exact Nat.lt_of_le_of_lt this (by decide +kernel)
            · have c2 := of_decide_eq_false c2
              refine E.eq ?_ (E.cInt (i := 1))
              unfold shareV
              rw [if_neg (by (first | lia | omega))]
            · have sS : Safe (shareV L asked k) := by
                unfold shareV
                split <;> simp [Safe]
              exact ⟨trivial, sS, trivial, trivial⟩
            · rw [List.length_map]
              exact Nat.le_trans (List.length_filter_le _ _) (by simp; (first | lia | omega))
            · show ∀ x b, _ → _
              rw [step, c, if_pos rfl]
              walk_at "sb"
          · show ∀ x b, _ → _
            rw [step, c, if_neg (by first | walk_at "mem" | simp), List.append_nil]
            walk_at "sb"
        · -- if _law_found(..) != due
          have fd := found_due (p := p) (q := q) hL h4 (fun r hr => by have := hsh r hr; (first | lia | omega)) i4 il (by (first | lia | omega)) p2 q2
          refine ex_iteM (c := false) (x := .list (((List.range 8).filter fun k => isDue L asked p q k).map (hitV L asked))) (EM.callM (rd := 1) (P := MatE X.prog X.w) (P' := MatE X.prog X.w) (ps := [.list (L.map lV), .list tb, lV asked, .int p, .int q]) ok (gl (v := .ref at_law_found) (by kernel_rfl!) (by kernel_rfl!) (by decide +kernel)) (by walk_at "lk") (by decide +kernel) (.cons (by walk_at "en") (.cons (by walk_at "en") (.cons (by walk_at "en") (.cons (by walk_at "en") (.cons (by walk_at "en") .nil))))) ⟨safe_lists L, ?_, Safes.ints _, trivial, trivial, trivial⟩ (by rw [hK]; kernel_rfl!) (by (first | lia | omega)) rfl ?_) (by walk_at "en") (Cmp.neTups ok hK (xs := ((List.range 8).filter fun k => isDue L asked p q k).map fun k : Nat => [PV.int (k : Int), .flt (ratioF (qm asked [] (L.getD k [])) ((L.getD k []).length + asked.length)), .bool true]) (ys := ((List.range 8).filter fun k => isDue L asked p q k).map fun k : Nat => [PV.int (k : Int), shareV L asked k, .bool true]) (by rw [List.map_map]; exact .list _) (by rw [List.map_map]; exact .rlist _) (by first | walk_at "mem" | simp) ?_) (fun c => nomatch c) (fun _ => Ex.nil (Ex.nil ?_))
          · rw [← htb]
            refine Safes.all fun x hx => ?_
            obtain ⟨r, _, rfl⟩ := List.mem_map.mp hx
            refine Safes.all fun x hx => ?_
            obtain ⟨r, _, rfl⟩ := List.mem_map.mp hx
            simp [Safe, Safes]
          · intro h F vs lD a1 a2 a3 a4 a5 a6 a7 a8
            rw [← fd]
            exact law_found hL (fun r hr => by have := hsh r hr; (first | lia | omega)) il hne (by (first | lia | omega)) (by (first | lia | omega)) a1 (by (first | lia | omega)) (by (first | lia | omega)) (hK ▸ a4) a5 a6 a7 (htb ▸ a8)
          · intro i x y h1 h2
            rw [List.getElem?_map, Option.map_eq_some_iff] at h1 h2
            obtain ⟨k, g1, rfl⟩ := h1
            obtain ⟨k', g2, rfl⟩ := h2
            rw [g1] at g2; cases g2
            have hk : k < 8 := List.mem_range.mp (List.mem_filter.mp (List.mem_of_getElem? g1)).1
            have hkL := hsh _ (at8 k hk)
            refine ⟨rfl, fun j a b ha hb => ?_⟩
            rcases j with _ | _ | _ | j
            · cases ha; cases hb; exact .int _
            · cases ha; cases hb; exact hit_due (by (first | lia | omega))
            · cases ha; cases hb; exact .bool _
            · cases ha
          · show ∀ x b, _ → _
            walk_at "sb"
      · refine Ex.ret (p := .bool true) (by walk_at "en") (by simp [Safe]) rfl
end Mine

end
section

open PySem PySem.W PyProof.Rows PySem.Calls
set_option Elab.async false
set_option linter.unusedVariables false
set_option maxRecDepth 100000
set_option maxHeartbeats 8000000
namespace Mine
theorem fin_try : PySem.Challenge.rw_dm0052_08.Holds := by
  w_on
  o_law
  refine holds_open (q := viewP) (loose := looseN) (Xt := fun s => xlAt viewP [] s && recOk [] s) (XP := XL viewP []) (Yf := Hook.obs (kHook frag fragAt fragAll)) (Ya := Hook.val (kHook frag fragAt fragAll)) (YP := Hook.says (kHook frag fragAt fragAll)) (N := 4696) ?hl (Hook.of (kHook frag fragAt fragAll)) (Hook.keeps (kHook frag fragAt fragAll)) (fun s e => xl_of s (Bool.and_eq_true_iff.mp e).1) XL.keeps (by rfl) (by rfl) (by rfl) (fun s e => recFacts_of (Bool.and_eq_true_iff.mp e).2) (by rfl) (by first | assumption | decide +kernel) (by decide +kernel) ⟨rfl, rfl, rfl, rfl, rfl, by decide +kernel⟩ ?hw ?hc
  case hl => exact left
  case hw => w_witness2
  case hc =>
    intro w s₀ s₁ mg mb G Y fa o pm cd doc dV kV ho hd hcd hD hmg hg args vals as hpre hlay hrd hwl hlo
    have KX := kIn_of Y
    refine Ground.open G ?_
    intro T B D TE TW
    wrow_args hpre hlay hrd hwl hlo
    rename_i nums _ _ _ _ _ _ _ la vsl _ hLl _ _ _ hI _ hc _
    have hfa : fa = at_law := by
      have hv : nsIn (frag w.params) mainGlobals (Str.ofString "law") = some (some (.ref at_law)) := by kernel_rfl!
      have h1 : mg (Str.ofString "law") = some (.ref at_law) := mg_of KX T.g hv
      have h2 : mg (Str.ofString "law") = some (.ref fa) := hmg
      rw [h1] at h2
      cases h2
      rfl
    have GG : Gr (frag w.params) s₁.heap := ⟨KX, ⟨mg, T.g⟩, ⟨mb, T.b, T.builtins⟩, T.nolimit⟩
    have args0 : Args PySem.Challenge.rw_dm0052_08.row.prog w (fun a o => s₁.heap.get? a = some o) [] [.ref la] ([PV.list (nums.map .int)].map .fz) := .fz (by
      have W : Well w.params s₁.heap (Value.ref la) (ofPy (PyData.list (List.map PyData.int nums))) := by assumption
      obtain ⟨o', g1, g2, g3, g4⟩ := hLl
      generalize hwd : ofPy (PyData.list (List.map PyData.int nums)) = wd at W
      cases W with
      | @list _ vs xs e wa =>
        rw [e] at g1
        cases g1
        have g5 : vs.toArray = vsl.toArray := by simpa using (Data.seq.inj g4).1
        have g6 : vs = vsl := by simpa using g5
        subst g6
        exact .list e ⟨_, rfl⟩ (Reps.ints hI)
      | _ => cases hwd) .nil
    have LC := law_run (prog := PySem.Challenge.rw_dm0052_08.row.prog) (w := w) (script := nums) (A := callerA) (h := s₁.heap) (by (first | lia | omega)) (by rfl) (by decide +kernel) (by decide +kernel) GG (fun _ _ e => e) args0
    rw [hfa]
    have LT : wpAny (model PySem.Challenge.rw_dm0052_08.row.prog w) callerA (call (.ref at_law) [.ref la]) (fun v s' => ∃ h' tk, s' = { s₁ with heap := h', toks := tk } ∧ Ret PySem.Challenge.rw_dm0052_08.row.prog w (fun a o => s₁.heap.get? a = some o) s₁.heap [] (fun p _ => p = .bool true) v h') (fun _ _ => False) s₁ :=
      wpAny_call (codeAny_mono (LC s₁ rfl) (by rintro r s' ⟨v, h', tk, rfl, rfl, hp, q⟩; exact ⟨h', tk, rfl, q⟩))
    refine wpAny_mono LT ?_ (fun _ _ z => z.elim)
    rintro v s' ⟨h', tk, rfl, ⟨⟨p, Γ', F', le, st, rep, rfl, _⟩, sb⟩⟩
    obtain rfl := rep.b
    refine ⟨.inl ⟨.bool true, .bool true, [], rfl, fun _ => rfl, .bool true, ?_, fun _ => ⟨.nil, by simp⟩⟩, .of_keep (fun b o e => sb b o (by first | walk_at "mem" | simp) e), rfl, .of_eq hg⟩
    wrow_post
end Mine

end
theorem PySem.Challenge.cw_dm0052_08_holds : PySem.Challenge.rw_dm0052_08.Holds :=
  Mine.fin_try
