import PyProof.Rows.All
import Wide.All
import OpenK.AllK
import Wide.FinOn
import PySem.Challenge.RW_dm0052_12
set_option Elab.async false
section
open PySem PySem.W
set_option maxRecDepth 100000
set_option maxHeartbeats 4000000
namespace Mine
noncomputable def anyQ {α : Type} (as : Array α) (p : α → Bool) (start : Nat) (stop : Nat) : Bool :=
  @Bool.rec (fun _ => Bool) (Array.any as p start stop) (R.anyR as.toList p) (Nat.beq start 0 && Nat.beq stop (as.toList.length))
theorem anyQ_eq : @Array.any.{0} = @anyQ := by
  funext α as p start stop
  unfold anyQ
  cases h : (Nat.beq start 0 && Nat.beq stop (as.toList.length)) with
  | false => rfl
  | true =>
    rw [Bool.and_eq_true] at h
    have h1 := Nat.eq_of_beq_eq_true h.1
    have h2 := Nat.eq_of_beq_eq_true h.2
    subst h1
    show _ = R.anyR as.toList p
    rw [← R.anyR_eq, h2]
    simp [Array.any_toList]
noncomputable def tabOf (f : Builtin) (id : String) : Option Builtin :=
  @Decidable.rec (id = "type.__new__") (fun _ => Option Builtin) (fun _ => PySem.W.Fast.tw14364793385576792824 id) (fun _ => some f) (S.strDecS id "type.__new__")
theorem tab_new : PySem.W.Fast.tw14364793385576792824 "type.__new__" = some PySem.W.Fast.tw4202317264376624991 := by kernel_rfl
theorem tabOf_eq : PySem.treeTable = tabOf PySem.W.Fast.tw4202317264376624991 := by
  rw [PySem.W.Fast.te14364793385576792824]
  funext id
  unfold tabOf
  cases S.strDecS id "type.__new__" with
  | isFalse h => rfl
  | isTrue h => subst h; exact tab_new
end Mine

end
section
open PySem PySem.W PyProof.Rows
set_option Elab.async false
set_option linter.unusedVariables false
set_option maxRecDepth 100000
set_option maxHeartbeats 8000000
namespace Mine
noncomputable def pwBody : List Stmt := PySem.Challenge.pw_dm0052_12.main.body
noncomputable def stN (l : List Stmt) (i : Nat) : Stmt := l.getD i (.Pass ⟨0, 0, 0, 0⟩)
noncomputable def bodyN : Stmt → List Stmt
  | .FunctionDef _ _ b _ _ _ _ _ _ _ => b
  | .ClassDef _ _ _ b _ _ _ _ _ _ _ => b
  | _ => []
noncomputable def argsN : Stmt → Arguments
  | .FunctionDef _ a _ _ _ _ _ _ _ _ => a
  | _ => default
noncomputable def scopeN : Stmt → Scope
  | .FunctionDef _ _ _ _ _ _ s _ _ _ => s
  | _ => default
noncomputable def docN : List Stmt → Str
  | .Expr (.Constant (.str s) _ _) _ :: _ => s
  | _ => Str.empty
theorem touch : (fun (_ : Program) => true) PySem.Challenge.pw_dm0052_12 = true := by k_qdec
noncomputable def twBody : List Stmt := PySem.W.Fast.tw3081731319412875699.main.body
noncomputable def o3 (P : Params) : Obj := ⟨(.type "dict"), none, (.dict (List.toArray [⟨PyData.keyHash P (Str.ofString "__name__"), (.str (Str.ofString "__name__") 165), (.str (Str.ofString "law_dm0052_12") 575)⟩, ⟨PyData.keyHash P (Str.ofString "__doc__"), (.str (Str.ofString "__doc__") 166), .none⟩, ⟨PyData.keyHash P (Str.ofString "__package__"), (.str (Str.ofString "__package__") 167), .none⟩, ⟨PyData.keyHash P (Str.ofString "__loader__"), (.str (Str.ofString "__loader__") 168), (.builtin "__main__.__loader__#opaque")⟩, ⟨PyData.keyHash P (Str.ofString "__spec__"), (.str (Str.ofString "__spec__") 169), .none⟩, ⟨PyData.keyHash P (Str.ofString "__annotations__"), (.str (Str.ofString "__annotations__") 170), (.ref 6)⟩, ⟨PyData.keyHash P (Str.ofString "__builtins__"), (.str (Str.ofString "__builtins__") 171), (.ref 4)⟩, ⟨PyData.keyHash P (Str.ofString "__file__"), (.str (Str.ofString "__file__") 173), (.str (Str.ofString "/claim/cut.py") 172)⟩, ⟨PyData.keyHash P (Str.ofString "__cached__"), (.str (Str.ofString "__cached__") 174), .none⟩, ⟨PyData.keyHash P (Str.ofString "_wall"), (.str (Str.ofString "_wall") 193), (.ref 21)⟩, ⟨PyData.keyHash P (Str.ofString "_tuplegetter"), (.str (Str.ofString "_tuplegetter") 252), (.ref 60)⟩, ⟨PyData.keyHash P (Str.ofString "Match"), (.str (Str.ofString "Match") 380), (.ref 135)⟩, ⟨PyData.keyHash P (Str.ofString "_calculate_ratio"), (.str (Str.ofString "_calculate_ratio") 388), (.ref 145)⟩, ⟨PyData.keyHash P (Str.ofString "SequenceMatcher"), (.str (Str.ofString "SequenceMatcher") 574), (.ref 242)⟩, ⟨PyData.keyHash P (Str.ofString "_law_spread"), (.str (Str.ofString "_law_spread") 582), (.ref 251)⟩, ⟨PyData.keyHash P (Str.ofString "_law_pass"), (.str (Str.ofString "_law_pass") 588), (.ref 256)⟩, ⟨PyData.keyHash P (Str.ofString "_law_found"), (.str (Str.ofString "_law_found") 594), (.ref 261)⟩, ⟨PyData.keyHash P (Str.ofString "law"), (.str (Str.ofString "law") 600), (.ref 266)⟩]) 18), List.toArray []⟩
noncomputable def o11 (P : Params) : Obj := ⟨(.type "tuple"), none, (.seq (List.toArray []) 0), List.toArray []⟩
noncomputable def o12 (P : Params) : Obj := ⟨.none, none, (.fields (List.toArray [(.int 1 0), (.int 0 0), (.ref 20), (.int 5 0), (.int 0 0), (.ref 27), (.int 23 0), (.int 0 0), (.ref 71), (.int 66 0), (.int 0 0), (.ref 144), (.int 70 0), (.int 0 0), (.ref 151), (.int 419 0), (.int 0 0), (.ref 250), (.int 421 0), (.int 0 0), (.ref 255), (.int 430 0), (.int 0 0), (.ref 260), (.int 433 0), (.int 0 0), (.ref 265)])), List.toArray []⟩
noncomputable def o13 (P : Params) : Obj := ⟨(.type "code"), none, (.fields (List.toArray [(.str (Str.ofString "<module>") 182), (.str (Str.ofString "<module>") 183), (.str (Str.ofString "/claim/cut.py") 184), (.int 1 0), (.int 0 0), (.int 0 0), (.int 0 0), (.int 0 0), (.ref 11), (.bool false), (.int 181 0), (.ref 12), .none, .none, .none, .none, (.int 185 0), (.int 1 0), (.str (Str.ofString "/claim/cut.py") 186)])), List.toArray []⟩
noncomputable def o14 (P : Params) : Obj := ⟨(.type "frame"), none, .plain, List.toArray [(some (.ref 13)), (some (.ref 3)), (some (.ref 3)), none, (some (.str (Str.ofString "__main__") 164)), none, (some (.ref 0))]⟩
noncomputable def o15 (P : Params) : Obj := ⟨(.type "tuple"), none, (.seq (List.toArray []) 0), List.toArray []⟩
noncomputable def o16 (P : Params) : Obj := ⟨.none, none, (.fields (List.toArray [])), List.toArray []⟩
noncomputable def o17 (P : Params) : Obj := ⟨(.type "tuple"), none, (.seq (List.toArray [(.str (Str.ofString "k") 190)]) 0), List.toArray []⟩
noncomputable def o18 (P : Params) : Obj := ⟨(.type "tuple"), none, (.seq (List.toArray []) 0), List.toArray []⟩
noncomputable def o19B (B : List Stmt) (P : Params) : Obj := ⟨.none, none, (.func { name := (Str.ofString "_wall"), qualname := (Str.ofString "_wall"), params := argsN (stN B 0), body := .stmts (bodyN (stN B 0)), scope := scopeN (stN B 0), globals := 0, closure := [], defaults := .none, kwdefaults := .none, doc := .none, pyModule := .none, annotations := none, code := .none, closureTuple := .none, builtins := 0 }), List.toArray []⟩
noncomputable def o19 (P : Params) : Obj := o19B pwBody P
noncomputable def o20 (P : Params) : Obj := ⟨(.type "code"), none, (.fields (List.toArray [(.str (Str.ofString "_wall") 187), (.str (Str.ofString "_wall") 188), (.str (Str.ofString "/claim/cut.py") 189), (.int 1 0), (.int 1 0), (.int 0 0), (.int 0 0), (.int 3 0), (.ref 15), (.bool true), (.int 181 0), (.ref 16), .none, (.ref 17), (.ref 18), (.ref 19), (.int 191 0), (.int 1 0), (.str (Str.ofString "/claim/cut.py") 192)])), List.toArray []⟩
noncomputable def fd21B (B : List Stmt) : FuncData := { name := (Str.ofString "_wall"), qualname := (Str.ofString "_wall"), params := argsN (stN B 0), body := .stmts (bodyN (stN B 0)), scope := scopeN (stN B 0), globals := 3, closure := [], defaults := .none, kwdefaults := .none, doc := .none, pyModule := (.str (Str.ofString "__main__") 164), annotations := none, code := (.ref 20), closureTuple := .none, builtins := 0 }
noncomputable def fd21 : FuncData := fd21B pwBody
noncomputable def at_wall : Addr := 21
noncomputable def fdOf_wall : FuncData := fd21
noncomputable def o21B (B : List Stmt) (P : Params) : Obj := ⟨(.type "function"), none, (.func (fd21B B)), List.toArray []⟩
noncomputable def o21 (P : Params) : Obj := o21B pwBody P
noncomputable def obOf_wall (P : Params) : Obj := o21 P
noncomputable def o22 (P : Params) : Obj := ⟨(.type "tuple"), none, (.seq (List.toArray []) 0), List.toArray []⟩
noncomputable def o23 (P : Params) : Obj := ⟨(.type "builtin_function_or_method"), none, (.fields (List.toArray [(.builtin "type.__prepare__"), (.type "type")])), List.toArray []⟩
noncomputable def o24 (P : Params) : Obj := ⟨(.type "dict"), none, (.dict (List.toArray [⟨PyData.keyHash P (Str.ofString "__module__"), (.str (Str.ofString "__module__") 203), (.str (Str.ofString "cpy313.difflib") 194)⟩, ⟨PyData.keyHash P (Str.ofString "__qualname__"), (.str (Str.ofString "__qualname__") 205), (.str (Str.ofString "_tuplegetter") 204)⟩, ⟨PyData.keyHash P (Str.ofString "__firstlineno__"), (.str (Str.ofString "__firstlineno__") 207), (.int 5 206)⟩, ⟨PyData.keyHash P (Str.ofString "__init__"), (.str (Str.ofString "__init__") 216), (.ref 35)⟩, ⟨PyData.keyHash P (Str.ofString "__get__"), (.str (Str.ofString "__get__") 225), (.ref 43)⟩, ⟨PyData.keyHash P (Str.ofString "__set__"), (.str (Str.ofString "__set__") 234), (.ref 50)⟩, ⟨PyData.keyHash P (Str.ofString "__delete__"), (.str (Str.ofString "__delete__") 242), (.ref 57)⟩, ⟨PyData.keyHash P (Str.ofString "__static_attributes__"), (.str (Str.ofString "__static_attributes__") 245), (.ref 58)⟩]) 8), List.toArray []⟩
noncomputable def o25 (P : Params) : Obj := ⟨(.type "tuple"), none, (.seq (List.toArray []) 0), List.toArray []⟩
noncomputable def o26 (P : Params) : Obj := ⟨.none, none, (.fields (List.toArray [(.int 7 0), (.int 4 0), (.ref 34), (.int 11 0), (.int 4 0), (.ref 42), (.int 18 0), (.int 4 0), (.ref 49), (.int 21 0), (.int 4 0), (.ref 56)])), List.toArray []⟩
noncomputable def o27 (P : Params) : Obj := ⟨(.type "code"), none, (.fields (List.toArray [(.str (Str.ofString "_tuplegetter") 198), (.str (Str.ofString "_tuplegetter") 199), (.str (Str.ofString "/claim/cut.py") 200), (.int 5 0), (.int 0 0), (.int 0 0), (.int 0 0), (.int 0 0), (.ref 25), (.bool false), (.int 181 0), (.ref 26), .none, .none, .none, .none, (.int 201 0), (.int 5 0), (.str (Str.ofString "/claim/cut.py") 202)])), List.toArray []⟩
noncomputable def o28 (P : Params) : Obj := ⟨(.type "frame"), none, .plain, List.toArray [(some (.ref 27)), (some (.ref 3)), (some (.ref 24)), none, (some (.str (Str.ofString "cpy313.difflib") 194)), none, (some (.ref 0))]⟩
noncomputable def o29 (P : Params) : Obj := ⟨(.type "tuple"), none, (.seq (List.toArray []) 0), List.toArray []⟩
noncomputable def o30 (P : Params) : Obj := ⟨.none, none, (.fields (List.toArray [])), List.toArray []⟩
noncomputable def o31 (P : Params) : Obj := ⟨(.type "tuple"), none, (.seq (List.toArray [(.str (Str.ofString "self") 211), (.str (Str.ofString "index") 212), (.str (Str.ofString "doc") 213)]) 0), List.toArray []⟩
noncomputable def o32 (P : Params) : Obj := ⟨(.type "tuple"), none, (.seq (List.toArray []) 0), List.toArray []⟩
noncomputable def o33B (B : List Stmt) (P : Params) : Obj := ⟨.none, none, (.func { name := (Str.ofString "__init__"), qualname := (Str.ofString "_tuplegetter.__init__"), params := argsN (stN (bodyN (stN B 2)) 0), body := .stmts (bodyN (stN (bodyN (stN B 2)) 0)), scope := scopeN (stN (bodyN (stN B 2)) 0), globals := 0, closure := [], defaults := .none, kwdefaults := .none, doc := .none, pyModule := .none, annotations := none, code := .none, closureTuple := .none, builtins := 0 }), List.toArray []⟩
noncomputable def o33 (P : Params) : Obj := o33B pwBody P
noncomputable def o34 (P : Params) : Obj := ⟨(.type "code"), none, (.fields (List.toArray [(.str (Str.ofString "__init__") 208), (.str (Str.ofString "_tuplegetter.__init__") 209), (.str (Str.ofString "/claim/cut.py") 210), (.int 7 0), (.int 3 0), (.int 0 0), (.int 0 0), (.int 3 0), (.ref 29), (.bool true), (.int 181 0), (.ref 30), .none, (.ref 31), (.ref 32), (.ref 33), (.int 214 0), (.int 7 0), (.str (Str.ofString "/claim/cut.py") 215)])), List.toArray []⟩
noncomputable def fd35B (B : List Stmt) : FuncData := { name := (Str.ofString "__init__"), qualname := (Str.ofString "_tuplegetter.__init__"), params := argsN (stN (bodyN (stN B 2)) 0), body := .stmts (bodyN (stN (bodyN (stN B 2)) 0)), scope := scopeN (stN (bodyN (stN B 2)) 0), globals := 3, closure := [], defaults := .none, kwdefaults := .none, doc := .none, pyModule := (.str (Str.ofString "cpy313.difflib") 194), annotations := none, code := (.ref 34), closureTuple := .none, builtins := 0 }
noncomputable def fd35 : FuncData := fd35B pwBody
noncomputable def at_tuplegetter_init : Addr := 35
noncomputable def fdOf_tuplegetter_init : FuncData := fd35
noncomputable def o35B (B : List Stmt) (P : Params) : Obj := ⟨(.type "function"), none, (.func (fd35B B)), List.toArray []⟩
noncomputable def o35 (P : Params) : Obj := o35B pwBody P
noncomputable def obOf_tuplegetter_init (P : Params) : Obj := o35 P
noncomputable def o36 (P : Params) : Obj := ⟨(.type "tuple"), none, (.seq (List.toArray [.none]) 0), List.toArray []⟩
noncomputable def o37 (P : Params) : Obj := ⟨(.type "tuple"), none, (.seq (List.toArray []) 0), List.toArray []⟩
noncomputable def o38 (P : Params) : Obj := ⟨.none, none, (.fields (List.toArray [])), List.toArray []⟩
noncomputable def o39 (P : Params) : Obj := ⟨(.type "tuple"), none, (.seq (List.toArray [(.str (Str.ofString "self") 220), (.str (Str.ofString "obj") 221), (.str (Str.ofString "objtype") 222)]) 0), List.toArray []⟩
noncomputable def o40 (P : Params) : Obj := ⟨(.type "tuple"), none, (.seq (List.toArray []) 0), List.toArray []⟩
noncomputable def o41B (B : List Stmt) (P : Params) : Obj := ⟨.none, none, (.func { name := (Str.ofString "__get__"), qualname := (Str.ofString "_tuplegetter.__get__"), params := argsN (stN (bodyN (stN B 2)) 1), body := .stmts (bodyN (stN (bodyN (stN B 2)) 1)), scope := scopeN (stN (bodyN (stN B 2)) 1), globals := 0, closure := [], defaults := .none, kwdefaults := .none, doc := .none, pyModule := .none, annotations := none, code := .none, closureTuple := .none, builtins := 0 }), List.toArray []⟩
noncomputable def o41 (P : Params) : Obj := o41B pwBody P
noncomputable def o42 (P : Params) : Obj := ⟨(.type "code"), none, (.fields (List.toArray [(.str (Str.ofString "__get__") 217), (.str (Str.ofString "_tuplegetter.__get__") 218), (.str (Str.ofString "/claim/cut.py") 219), (.int 11 0), (.int 3 0), (.int 0 0), (.int 0 0), (.int 3 0), (.ref 37), (.bool true), (.int 181 0), (.ref 38), .none, (.ref 39), (.ref 40), (.ref 41), (.int 223 0), (.int 11 0), (.str (Str.ofString "/claim/cut.py") 224)])), List.toArray []⟩
noncomputable def fd43B (B : List Stmt) : FuncData := { name := (Str.ofString "__get__"), qualname := (Str.ofString "_tuplegetter.__get__"), params := argsN (stN (bodyN (stN B 2)) 1), body := .stmts (bodyN (stN (bodyN (stN B 2)) 1)), scope := scopeN (stN (bodyN (stN B 2)) 1), globals := 3, closure := [], defaults := (.ref 36), kwdefaults := .none, doc := .none, pyModule := (.str (Str.ofString "cpy313.difflib") 194), annotations := none, code := (.ref 42), closureTuple := .none, builtins := 0 }
noncomputable def fd43 : FuncData := fd43B pwBody
noncomputable def at_tuplegetter_get : Addr := 43
noncomputable def fdOf_tuplegetter_get : FuncData := fd43
noncomputable def o43B (B : List Stmt) (P : Params) : Obj := ⟨(.type "function"), none, (.func (fd43B B)), List.toArray []⟩
noncomputable def o43 (P : Params) : Obj := o43B pwBody P
noncomputable def obOf_tuplegetter_get (P : Params) : Obj := o43 P
noncomputable def o44 (P : Params) : Obj := ⟨(.type "tuple"), none, (.seq (List.toArray []) 0), List.toArray []⟩
noncomputable def o45 (P : Params) : Obj := ⟨.none, none, (.fields (List.toArray [])), List.toArray []⟩
noncomputable def o46 (P : Params) : Obj := ⟨(.type "tuple"), none, (.seq (List.toArray [(.str (Str.ofString "self") 229), (.str (Str.ofString "obj") 230), (.str (Str.ofString "value") 231)]) 0), List.toArray []⟩
noncomputable def o47 (P : Params) : Obj := ⟨(.type "tuple"), none, (.seq (List.toArray []) 0), List.toArray []⟩
noncomputable def o48B (B : List Stmt) (P : Params) : Obj := ⟨.none, none, (.func { name := (Str.ofString "__set__"), qualname := (Str.ofString "_tuplegetter.__set__"), params := argsN (stN (bodyN (stN B 2)) 2), body := .stmts (bodyN (stN (bodyN (stN B 2)) 2)), scope := scopeN (stN (bodyN (stN B 2)) 2), globals := 0, closure := [], defaults := .none, kwdefaults := .none, doc := .none, pyModule := .none, annotations := none, code := .none, closureTuple := .none, builtins := 0 }), List.toArray []⟩
noncomputable def o48 (P : Params) : Obj := o48B pwBody P
noncomputable def o49 (P : Params) : Obj := ⟨(.type "code"), none, (.fields (List.toArray [(.str (Str.ofString "__set__") 226), (.str (Str.ofString "_tuplegetter.__set__") 227), (.str (Str.ofString "/claim/cut.py") 228), (.int 18 0), (.int 3 0), (.int 0 0), (.int 0 0), (.int 3 0), (.ref 44), (.bool true), (.int 181 0), (.ref 45), .none, (.ref 46), (.ref 47), (.ref 48), (.int 232 0), (.int 18 0), (.str (Str.ofString "/claim/cut.py") 233)])), List.toArray []⟩
noncomputable def fd50B (B : List Stmt) : FuncData := { name := (Str.ofString "__set__"), qualname := (Str.ofString "_tuplegetter.__set__"), params := argsN (stN (bodyN (stN B 2)) 2), body := .stmts (bodyN (stN (bodyN (stN B 2)) 2)), scope := scopeN (stN (bodyN (stN B 2)) 2), globals := 3, closure := [], defaults := .none, kwdefaults := .none, doc := .none, pyModule := (.str (Str.ofString "cpy313.difflib") 194), annotations := none, code := (.ref 49), closureTuple := .none, builtins := 0 }
noncomputable def fd50 : FuncData := fd50B pwBody
noncomputable def at_tuplegetter_set : Addr := 50
noncomputable def fdOf_tuplegetter_set : FuncData := fd50
noncomputable def o50B (B : List Stmt) (P : Params) : Obj := ⟨(.type "function"), none, (.func (fd50B B)), List.toArray []⟩
noncomputable def o50 (P : Params) : Obj := o50B pwBody P
noncomputable def obOf_tuplegetter_set (P : Params) : Obj := o50 P
noncomputable def o51 (P : Params) : Obj := ⟨(.type "tuple"), none, (.seq (List.toArray []) 0), List.toArray []⟩
noncomputable def o52 (P : Params) : Obj := ⟨.none, none, (.fields (List.toArray [])), List.toArray []⟩
noncomputable def o53 (P : Params) : Obj := ⟨(.type "tuple"), none, (.seq (List.toArray [(.str (Str.ofString "self") 238), (.str (Str.ofString "obj") 239)]) 0), List.toArray []⟩
noncomputable def o54 (P : Params) : Obj := ⟨(.type "tuple"), none, (.seq (List.toArray []) 0), List.toArray []⟩
noncomputable def o55B (B : List Stmt) (P : Params) : Obj := ⟨.none, none, (.func { name := (Str.ofString "__delete__"), qualname := (Str.ofString "_tuplegetter.__delete__"), params := argsN (stN (bodyN (stN B 2)) 3), body := .stmts (bodyN (stN (bodyN (stN B 2)) 3)), scope := scopeN (stN (bodyN (stN B 2)) 3), globals := 0, closure := [], defaults := .none, kwdefaults := .none, doc := .none, pyModule := .none, annotations := none, code := .none, closureTuple := .none, builtins := 0 }), List.toArray []⟩
noncomputable def o55 (P : Params) : Obj := o55B pwBody P
noncomputable def o56 (P : Params) : Obj := ⟨(.type "code"), none, (.fields (List.toArray [(.str (Str.ofString "__delete__") 235), (.str (Str.ofString "_tuplegetter.__delete__") 236), (.str (Str.ofString "/claim/cut.py") 237), (.int 21 0), (.int 2 0), (.int 0 0), (.int 0 0), (.int 3 0), (.ref 51), (.bool true), (.int 181 0), (.ref 52), .none, (.ref 53), (.ref 54), (.ref 55), (.int 240 0), (.int 21 0), (.str (Str.ofString "/claim/cut.py") 241)])), List.toArray []⟩
noncomputable def fd57B (B : List Stmt) : FuncData := { name := (Str.ofString "__delete__"), qualname := (Str.ofString "_tuplegetter.__delete__"), params := argsN (stN (bodyN (stN B 2)) 3), body := .stmts (bodyN (stN (bodyN (stN B 2)) 3)), scope := scopeN (stN (bodyN (stN B 2)) 3), globals := 3, closure := [], defaults := .none, kwdefaults := .none, doc := .none, pyModule := (.str (Str.ofString "cpy313.difflib") 194), annotations := none, code := (.ref 56), closureTuple := .none, builtins := 0 }
noncomputable def fd57 : FuncData := fd57B pwBody
noncomputable def at_tuplegetter_delete : Addr := 57
noncomputable def fdOf_tuplegetter_delete : FuncData := fd57
noncomputable def o57B (B : List Stmt) (P : Params) : Obj := ⟨(.type "function"), none, (.func (fd57B B)), List.toArray []⟩
noncomputable def o57 (P : Params) : Obj := o57B pwBody P
noncomputable def obOf_tuplegetter_delete (P : Params) : Obj := o57 P
noncomputable def o58 (P : Params) : Obj := ⟨(.type "tuple"), none, (.seq (List.toArray [(.str (Str.ofString "__doc__") 243), (.str (Str.ofString "index") 244)]) 0), List.toArray []⟩
noncomputable def o59 (P : Params) : Obj := ⟨(.type "dict"), none, (.dict (List.toArray [⟨PyData.keyHash P (Str.ofString "__module__"), (.str (Str.ofString "__module__") 203), (.str (Str.ofString "cpy313.difflib") 194)⟩, ⟨PyData.keyHash P (Str.ofString "__firstlineno__"), (.str (Str.ofString "__firstlineno__") 207), (.int 5 206)⟩, ⟨PyData.keyHash P (Str.ofString "__init__"), (.str (Str.ofString "__init__") 216), (.ref 35)⟩, ⟨PyData.keyHash P (Str.ofString "__get__"), (.str (Str.ofString "__get__") 225), (.ref 43)⟩, ⟨PyData.keyHash P (Str.ofString "__set__"), (.str (Str.ofString "__set__") 234), (.ref 50)⟩, ⟨PyData.keyHash P (Str.ofString "__delete__"), (.str (Str.ofString "__delete__") 242), (.ref 57)⟩, ⟨PyData.keyHash P (Str.ofString "__static_attributes__"), (.str (Str.ofString "__static_attributes__") 245), (.ref 58)⟩, ⟨PyData.keyHash P (Str.ofString "__dict__"), (.str (Str.ofString "__dict__") 247), (.ref 61)⟩, ⟨PyData.keyHash P (Str.ofString "__weakref__"), (.str (Str.ofString "__weakref__") 249), (.ref 62)⟩, ⟨PyData.keyHash P (Str.ofString "__doc__"), (.str (Str.ofString "__doc__") 250), .none⟩]) 4), List.toArray []⟩
noncomputable def at_tuplegetter : Addr := 60
noncomputable def o60 (P : Params) : Obj := ⟨(.type "type"), none, (.cls { name := (Str.ofString "_tuplegetter"), bases := [(.type "object")], mro := [(.ref 60), (.type "object")], ns := 59, qualname := (Str.ofString "_tuplegetter"), hasDict := true, slotNames := [], subclasses := [], abstract := false, collection := none, hasDel := false }), List.toArray [none, none, (some (.str (Str.ofString "_tuplegetter") 196)), (some (.str (Str.ofString "_tuplegetter") 204)), (some (.builtin "object.__new__")), (some (.bool true))]⟩
noncomputable def o61 (P : Params) : Obj := ⟨(.type "getset_descriptor"), none, (.fields (List.toArray [(.str (Str.ofString "__dict__") 246), (.ref 60), (.builtin "function.__dict__"), (.builtin "function.__dict__#set")])), List.toArray []⟩
noncomputable def o62 (P : Params) : Obj := ⟨(.type "getset_descriptor"), none, (.fields (List.toArray [(.str (Str.ofString "__weakref__") 248), (.ref 60), (.builtin "ExceptionGroup.__weakref__"), .none])), List.toArray []⟩
noncomputable def o63 (P : Params) : Obj := ⟨(.type "super"), none, (.fields (List.toArray [(.ref 60), (.ref 60), (.ref 60)])), List.toArray []⟩
noncomputable def o64 (P : Params) : Obj := ⟨(.type "builtin_function_or_method"), none, (.fields (List.toArray [(.builtin "object.__init_subclass__"), (.ref 60)])), List.toArray []⟩
noncomputable def o65 (P : Params) : Obj := ⟨(.type "tuple"), none, (.seq (List.toArray [(.type "tuple")]) 0), List.toArray []⟩
noncomputable def o66 (P : Params) : Obj := ⟨(.type "builtin_function_or_method"), none, (.fields (List.toArray [(.builtin "type.__prepare__"), (.type "type")])), List.toArray []⟩
noncomputable def o67 (P : Params) : Obj := ⟨(.type "dict"), none, (.dict (List.toArray [⟨PyData.keyHash P (Str.ofString "__module__"), (.str (Str.ofString "__module__") 260), (.str (Str.ofString "cpy313.difflib") 194)⟩, ⟨PyData.keyHash P (Str.ofString "__qualname__"), (.str (Str.ofString "__qualname__") 262), (.str (Str.ofString "Match") 261)⟩, ⟨PyData.keyHash P (Str.ofString "__firstlineno__"), (.str (Str.ofString "__firstlineno__") 264), (.int 23 263)⟩, ⟨PyData.keyHash P (Str.ofString "__doc__"), (.str (Str.ofString "__doc__") 266), (.str (Str.ofString "Match(a, b, size)") 265)⟩, ⟨PyData.keyHash P (Str.ofString "__slots__"), (.str (Str.ofString "__slots__") 268), (.ref 73)⟩, ⟨PyData.keyHash P (Str.ofString "_fields"), (.str (Str.ofString "_fields") 272), (.ref 74)⟩, ⟨PyData.keyHash P (Str.ofString "_field_defaults"), (.str (Str.ofString "_field_defaults") 273), (.ref 75)⟩, ⟨PyData.keyHash P (Str.ofString "__new__"), (.str (Str.ofString "__new__") 284), (.ref 82)⟩, ⟨PyData.keyHash P (Str.ofString "_make"), (.str (Str.ofString "_make") 306), (.ref 91)⟩, ⟨PyData.keyHash P (Str.ofString "_replace"), (.str (Str.ofString "_replace") 317), (.ref 100)⟩, ⟨PyData.keyHash P (Str.ofString "__replace__"), (.str (Str.ofString "__replace__") 318), (.ref 100)⟩, ⟨PyData.keyHash P (Str.ofString "__repr__"), (.str (Str.ofString "__repr__") 326), (.ref 107)⟩, ⟨PyData.keyHash P (Str.ofString "_asdict"), (.str (Str.ofString "_asdict") 333), (.ref 114)⟩, ⟨PyData.keyHash P (Str.ofString "__getnewargs__"), (.str (Str.ofString "__getnewargs__") 341), (.ref 121)⟩, ⟨PyData.keyHash P (Str.ofString "__match_args__"), (.str (Str.ofString "__match_args__") 345), (.ref 122)⟩, ⟨PyData.keyHash P (Str.ofString "a"), (.str (Str.ofString "a") 355), (.ref 124)⟩, ⟨PyData.keyHash P (Str.ofString "b"), (.str (Str.ofString "b") 365), (.ref 127)⟩, ⟨PyData.keyHash P (Str.ofString "size"), (.str (Str.ofString "size") 375), (.ref 130)⟩, ⟨PyData.keyHash P (Str.ofString "__static_attributes__"), (.str (Str.ofString "__static_attributes__") 376), (.ref 132)⟩, ⟨PyData.keyHash P (Str.ofString "__classcell__"), (.str (Str.ofString "__classcell__") 377), (.ref 68)⟩]) 20), List.toArray []⟩
noncomputable def o68 (P : Params) : Obj := ⟨(.type "cell"), none, (.cell (some (.ref 135))), List.toArray []⟩
noncomputable def o69 (P : Params) : Obj := ⟨(.type "tuple"), none, (.seq (List.toArray []) 0), List.toArray []⟩
noncomputable def o70 (P : Params) : Obj := ⟨.none, none, (.fields (List.toArray [(.int 29 0), (.int 4 0), (.ref 81), (.int 34 0), (.int 4 0), (.ref 88), (.int 41 0), (.int 4 0), (.ref 99), (.int 52 0), (.int 4 0), (.ref 106), (.int 56 0), (.int 4 0), (.ref 113), (.int 59 0), (.int 4 0), (.ref 120)])), List.toArray []⟩
noncomputable def o71 (P : Params) : Obj := ⟨(.type "code"), none, (.fields (List.toArray [(.str (Str.ofString "Match") 255), (.str (Str.ofString "Match") 256), (.str (Str.ofString "/claim/cut.py") 257), (.int 23 0), (.int 0 0), (.int 0 0), (.int 0 0), (.int 0 0), (.ref 69), (.bool false), (.int 181 0), (.ref 70), .none, .none, .none, .none, (.int 258 0), (.int 23 0), (.str (Str.ofString "/claim/cut.py") 259)])), List.toArray []⟩
noncomputable def o72 (P : Params) : Obj := ⟨(.type "frame"), none, .plain, List.toArray [(some (.ref 71)), (some (.ref 3)), (some (.ref 67)), none, (some (.str (Str.ofString "cpy313.difflib") 194)), none, (some (.ref 0))]⟩
noncomputable def o73 (P : Params) : Obj := ⟨(.type "tuple"), none, (.seq (List.toArray []) 0), List.toArray []⟩
noncomputable def o74 (P : Params) : Obj := ⟨(.type "tuple"), none, (.seq (List.toArray [(.str (Str.ofString "a") 269), (.str (Str.ofString "b") 270), (.str (Str.ofString "size") 271)]) 0), List.toArray []⟩
noncomputable def o75 (P : Params) : Obj := ⟨(.type "dict"), none, (.dict (List.toArray []) 0), List.toArray []⟩
noncomputable def o76 (P : Params) : Obj := ⟨(.type "tuple"), none, (.seq (List.toArray []) 0), List.toArray []⟩
noncomputable def o77 (P : Params) : Obj := ⟨.none, none, (.fields (List.toArray [])), List.toArray []⟩
noncomputable def o78 (P : Params) : Obj := ⟨(.type "tuple"), none, (.seq (List.toArray [(.str (Str.ofString "_cls") 277), (.str (Str.ofString "a") 278), (.str (Str.ofString "b") 279), (.str (Str.ofString "size") 280)]) 0), List.toArray []⟩
noncomputable def o79 (P : Params) : Obj := ⟨(.type "tuple"), none, (.seq (List.toArray []) 0), List.toArray []⟩
noncomputable def o80B (B : List Stmt) (P : Params) : Obj := ⟨.none, none, (.func { name := (Str.ofString "__new__"), qualname := (Str.ofString "Match.__new__"), params := argsN (stN (bodyN (stN B 3)) 4), body := .stmts (bodyN (stN (bodyN (stN B 3)) 4)), scope := scopeN (stN (bodyN (stN B 3)) 4), globals := 0, closure := [], defaults := .none, kwdefaults := .none, doc := .none, pyModule := .none, annotations := none, code := .none, closureTuple := .none, builtins := 0 }), List.toArray []⟩
noncomputable def o80 (P : Params) : Obj := o80B pwBody P
noncomputable def o81 (P : Params) : Obj := ⟨(.type "code"), none, (.fields (List.toArray [(.str (Str.ofString "__new__") 274), (.str (Str.ofString "Match.__new__") 275), (.str (Str.ofString "/claim/cut.py") 276), (.int 29 0), (.int 4 0), (.int 0 0), (.int 0 0), (.int 3 0), (.ref 76), (.bool true), (.int 181 0), (.ref 77), .none, (.ref 78), (.ref 79), (.ref 80), (.int 281 0), (.int 29 0), (.str (Str.ofString "/claim/cut.py") 282)])), List.toArray []⟩
noncomputable def fd82B (B : List Stmt) : FuncData := { name := (Str.ofString "__new__"), qualname := (Str.ofString "Match.__new__"), params := argsN (stN (bodyN (stN B 3)) 4), body := .stmts (bodyN (stN (bodyN (stN B 3)) 4)), scope := scopeN (stN (bodyN (stN B 3)) 4), globals := 3, closure := [], defaults := .none, kwdefaults := .none, doc := (.str (Str.ofString "Create new instance of Match(a, b, size)") 283), pyModule := (.str (Str.ofString "cpy313.difflib") 194), annotations := none, code := (.ref 81), closureTuple := .none, builtins := 0 }
noncomputable def fd82 : FuncData := fd82B pwBody
noncomputable def at_Match_new : Addr := 82
noncomputable def fdOf_Match_new : FuncData := fd82
noncomputable def o82B (B : List Stmt) (P : Params) : Obj := ⟨(.type "function"), none, (.func (fd82B B)), List.toArray []⟩
noncomputable def o82 (P : Params) : Obj := o82B pwBody P
noncomputable def obOf_Match_new (P : Params) : Obj := o82 P
noncomputable def o83 (P : Params) : Obj := ⟨(.type "tuple"), none, (.seq (List.toArray []) 0), List.toArray []⟩
noncomputable def o84 (P : Params) : Obj := ⟨.none, none, (.fields (List.toArray [])), List.toArray []⟩
noncomputable def o85 (P : Params) : Obj := ⟨(.type "tuple"), none, (.seq (List.toArray [(.str (Str.ofString "cls") 288), (.str (Str.ofString "iterable") 289), (.str (Str.ofString "result") 290)]) 0), List.toArray []⟩
noncomputable def o86 (P : Params) : Obj := ⟨(.type "tuple"), none, (.seq (List.toArray []) 0), List.toArray []⟩
noncomputable def o87B (B : List Stmt) (P : Params) : Obj := ⟨.none, none, (.func { name := (Str.ofString "_make"), qualname := (Str.ofString "Match._make"), params := argsN (stN (bodyN (stN B 3)) 5), body := .stmts (bodyN (stN (bodyN (stN B 3)) 5)), scope := scopeN (stN (bodyN (stN B 3)) 5), globals := 0, closure := [], defaults := .none, kwdefaults := .none, doc := .none, pyModule := .none, annotations := none, code := .none, closureTuple := .none, builtins := 0 }), List.toArray []⟩
noncomputable def o87 (P : Params) : Obj := o87B pwBody P
noncomputable def o88 (P : Params) : Obj := ⟨(.type "code"), none, (.fields (List.toArray [(.str (Str.ofString "_make") 285), (.str (Str.ofString "Match._make") 286), (.str (Str.ofString "/claim/cut.py") 287), (.int 33 0), (.int 2 0), (.int 0 0), (.int 0 0), (.int 3 0), (.ref 83), (.bool true), (.int 181 0), (.ref 84), .none, (.ref 85), (.ref 86), (.ref 87), (.int 291 0), (.int 33 0), (.str (Str.ofString "/claim/cut.py") 292)])), List.toArray []⟩
noncomputable def fd89B (B : List Stmt) : FuncData := { name := (Str.ofString "_make"), qualname := (Str.ofString "Match._make"), params := argsN (stN (bodyN (stN B 3)) 5), body := .stmts (bodyN (stN (bodyN (stN B 3)) 5)), scope := scopeN (stN (bodyN (stN B 3)) 5), globals := 3, closure := [], defaults := .none, kwdefaults := .none, doc := (.str (Str.ofString "Make a new Match object from a sequence or iterable") 293), pyModule := (.str (Str.ofString "cpy313.difflib") 194), annotations := (some 92), code := (.ref 88), closureTuple := .none, builtins := 0 }
noncomputable def fd89 : FuncData := fd89B pwBody
noncomputable def at_Match_make : Addr := 89
noncomputable def fdOf_Match_make : FuncData := fd89
noncomputable def o89B (B : List Stmt) (P : Params) : Obj := ⟨(.type "function"), none, (.func (fd89B B)), List.toArray []⟩
noncomputable def o89 (P : Params) : Obj := o89B pwBody P
noncomputable def obOf_Match_make (P : Params) : Obj := o89 P
noncomputable def o90 (P : Params) : Obj := ⟨(.type "dict"), none, (.dict (List.toArray [⟨PyData.keyHash P (Str.ofString "__module__"), (.str (Str.ofString "__module__") 295), (.str (Str.ofString "cpy313.difflib") 194)⟩, ⟨PyData.keyHash P (Str.ofString "__name__"), (.str (Str.ofString "__name__") 298), (.str (Str.ofString "_make") 297)⟩, ⟨PyData.keyHash P (Str.ofString "__qualname__"), (.str (Str.ofString "__qualname__") 301), (.str (Str.ofString "Match._make") 300)⟩, ⟨PyData.keyHash P (Str.ofString "__doc__"), (.str (Str.ofString "__doc__") 303), (.str (Str.ofString "Make a new Match object from a sequence or iterable") 293)⟩, ⟨PyData.keyHash P (Str.ofString "__annotations__"), (.str (Str.ofString "__annotations__") 305), (.ref 92)⟩]) 5), List.toArray []⟩
noncomputable def o91 (P : Params) : Obj := ⟨(.type "classmethod"), (some 90), (.fields (List.toArray [(.ref 89), (.bool false)])), List.toArray []⟩
noncomputable def o92 (P : Params) : Obj := ⟨(.type "dict"), none, (.dict (List.toArray []) 0), List.toArray []⟩
noncomputable def o93 (P : Params) : Obj := ⟨(.type "tuple"), none, (.seq (List.toArray [(.ref 68)]) 0), List.toArray []⟩
noncomputable def o94 (P : Params) : Obj := ⟨(.type "tuple"), none, (.seq (List.toArray [(.str (Str.ofString "__class__") 310)]) 0), List.toArray []⟩
noncomputable def o95 (P : Params) : Obj := ⟨.none, none, (.fields (List.toArray [])), List.toArray []⟩
noncomputable def o96 (P : Params) : Obj := ⟨(.type "tuple"), none, (.seq (List.toArray [(.str (Str.ofString "self") 311), (.str (Str.ofString "kwds") 312), (.str (Str.ofString "result") 313)]) 0), List.toArray []⟩
noncomputable def o97 (P : Params) : Obj := ⟨(.type "tuple"), none, (.seq (List.toArray []) 0), List.toArray []⟩
noncomputable def o98B (B : List Stmt) (P : Params) : Obj := ⟨.none, none, (.func { name := (Str.ofString "_replace"), qualname := (Str.ofString "Match._replace"), params := argsN (stN (bodyN (stN B 3)) 6), body := .stmts (bodyN (stN (bodyN (stN B 3)) 6)), scope := scopeN (stN (bodyN (stN B 3)) 6), globals := 0, closure := [], defaults := .none, kwdefaults := .none, doc := .none, pyModule := .none, annotations := none, code := .none, closureTuple := .none, builtins := 0 }), List.toArray []⟩
noncomputable def o98 (P : Params) : Obj := o98B pwBody P
noncomputable def o99 (P : Params) : Obj := ⟨(.type "code"), none, (.fields (List.toArray [(.str (Str.ofString "_replace") 307), (.str (Str.ofString "Match._replace") 308), (.str (Str.ofString "/claim/cut.py") 309), (.int 41 0), (.int 1 0), (.int 1 0), (.int 0 0), (.int 11 0), (.ref 94), (.bool true), (.int 181 0), (.ref 95), .none, (.ref 96), (.ref 97), (.ref 98), (.int 314 0), (.int 41 0), (.str (Str.ofString "/claim/cut.py") 315)])), List.toArray []⟩
noncomputable def fd100B (B : List Stmt) : FuncData := { name := (Str.ofString "_replace"), qualname := (Str.ofString "Match._replace"), params := argsN (stN (bodyN (stN B 3)) 6), body := .stmts (bodyN (stN (bodyN (stN B 3)) 6)), scope := scopeN (stN (bodyN (stN B 3)) 6), globals := 3, closure := [((Str.ofString "__class__"), 68)], defaults := .none, kwdefaults := .none, doc := (.str (docN (bodyN (stN (bodyN (stN B 3)) 6))) 316), pyModule := (.str (Str.ofString "cpy313.difflib") 194), annotations := none, code := (.ref 99), closureTuple := (.ref 93), builtins := 0 }
noncomputable def fd100 : FuncData := fd100B pwBody
noncomputable def at_Match_replace : Addr := 100
noncomputable def fdOf_Match_replace : FuncData := fd100
noncomputable def o100B (B : List Stmt) (P : Params) : Obj := ⟨(.type "function"), none, (.func (fd100B B)), List.toArray []⟩
noncomputable def o100 (P : Params) : Obj := o100B pwBody P
noncomputable def obOf_Match_replace (P : Params) : Obj := o100 P
noncomputable def o101 (P : Params) : Obj := ⟨(.type "tuple"), none, (.seq (List.toArray []) 0), List.toArray []⟩
noncomputable def o102 (P : Params) : Obj := ⟨.none, none, (.fields (List.toArray [])), List.toArray []⟩
noncomputable def o103 (P : Params) : Obj := ⟨(.type "tuple"), none, (.seq (List.toArray [(.str (Str.ofString "self") 322)]) 0), List.toArray []⟩
noncomputable def o104 (P : Params) : Obj := ⟨(.type "tuple"), none, (.seq (List.toArray []) 0), List.toArray []⟩
noncomputable def o105B (B : List Stmt) (P : Params) : Obj := ⟨.none, none, (.func { name := (Str.ofString "__repr__"), qualname := (Str.ofString "Match.__repr__"), params := argsN (stN (bodyN (stN B 3)) 8), body := .stmts (bodyN (stN (bodyN (stN B 3)) 8)), scope := scopeN (stN (bodyN (stN B 3)) 8), globals := 0, closure := [], defaults := .none, kwdefaults := .none, doc := .none, pyModule := .none, annotations := none, code := .none, closureTuple := .none, builtins := 0 }), List.toArray []⟩
noncomputable def o105 (P : Params) : Obj := o105B pwBody P
noncomputable def o106 (P : Params) : Obj := ⟨(.type "code"), none, (.fields (List.toArray [(.str (Str.ofString "__repr__") 319), (.str (Str.ofString "Match.__repr__") 320), (.str (Str.ofString "/claim/cut.py") 321), (.int 52 0), (.int 1 0), (.int 0 0), (.int 0 0), (.int 3 0), (.ref 101), (.bool true), (.int 181 0), (.ref 102), .none, (.ref 103), (.ref 104), (.ref 105), (.int 323 0), (.int 52 0), (.str (Str.ofString "/claim/cut.py") 324)])), List.toArray []⟩
noncomputable def fd107B (B : List Stmt) : FuncData := { name := (Str.ofString "__repr__"), qualname := (Str.ofString "Match.__repr__"), params := argsN (stN (bodyN (stN B 3)) 8), body := .stmts (bodyN (stN (bodyN (stN B 3)) 8)), scope := scopeN (stN (bodyN (stN B 3)) 8), globals := 3, closure := [], defaults := .none, kwdefaults := .none, doc := (.str (Str.ofString "Return a nicely formatted representation string") 325), pyModule := (.str (Str.ofString "cpy313.difflib") 194), annotations := none, code := (.ref 106), closureTuple := .none, builtins := 0 }
noncomputable def fd107 : FuncData := fd107B pwBody
noncomputable def at_Match_repr : Addr := 107
noncomputable def fdOf_Match_repr : FuncData := fd107
noncomputable def o107B (B : List Stmt) (P : Params) : Obj := ⟨(.type "function"), none, (.func (fd107B B)), List.toArray []⟩
noncomputable def o107 (P : Params) : Obj := o107B pwBody P
noncomputable def obOf_Match_repr (P : Params) : Obj := o107 P
noncomputable def o108 (P : Params) : Obj := ⟨(.type "tuple"), none, (.seq (List.toArray []) 0), List.toArray []⟩
noncomputable def o109 (P : Params) : Obj := ⟨.none, none, (.fields (List.toArray [])), List.toArray []⟩
noncomputable def o110 (P : Params) : Obj := ⟨(.type "tuple"), none, (.seq (List.toArray [(.str (Str.ofString "self") 330)]) 0), List.toArray []⟩
noncomputable def o111 (P : Params) : Obj := ⟨(.type "tuple"), none, (.seq (List.toArray []) 0), List.toArray []⟩
noncomputable def o112B (B : List Stmt) (P : Params) : Obj := ⟨.none, none, (.func { name := (Str.ofString "_asdict"), qualname := (Str.ofString "Match._asdict"), params := argsN (stN (bodyN (stN B 3)) 9), body := .stmts (bodyN (stN (bodyN (stN B 3)) 9)), scope := scopeN (stN (bodyN (stN B 3)) 9), globals := 0, closure := [], defaults := .none, kwdefaults := .none, doc := .none, pyModule := .none, annotations := none, code := .none, closureTuple := .none, builtins := 0 }), List.toArray []⟩
noncomputable def o112 (P : Params) : Obj := o112B pwBody P
noncomputable def o113 (P : Params) : Obj := ⟨(.type "code"), none, (.fields (List.toArray [(.str (Str.ofString "_asdict") 327), (.str (Str.ofString "Match._asdict") 328), (.str (Str.ofString "/claim/cut.py") 329), (.int 56 0), (.int 1 0), (.int 0 0), (.int 0 0), (.int 3 0), (.ref 108), (.bool true), (.int 181 0), (.ref 109), .none, (.ref 110), (.ref 111), (.ref 112), (.int 331 0), (.int 56 0), (.str (Str.ofString "/claim/cut.py") 332)])), List.toArray []⟩
noncomputable def fd114B (B : List Stmt) : FuncData := { name := (Str.ofString "_asdict"), qualname := (Str.ofString "Match._asdict"), params := argsN (stN (bodyN (stN B 3)) 9), body := .stmts (bodyN (stN (bodyN (stN B 3)) 9)), scope := scopeN (stN (bodyN (stN B 3)) 9), globals := 3, closure := [], defaults := .none, kwdefaults := .none, doc := .none, pyModule := (.str (Str.ofString "cpy313.difflib") 194), annotations := none, code := (.ref 113), closureTuple := .none, builtins := 0 }
noncomputable def fd114 : FuncData := fd114B pwBody
noncomputable def at_Match_asdict : Addr := 114
noncomputable def fdOf_Match_asdict : FuncData := fd114
noncomputable def o114B (B : List Stmt) (P : Params) : Obj := ⟨(.type "function"), none, (.func (fd114B B)), List.toArray []⟩
noncomputable def o114 (P : Params) : Obj := o114B pwBody P
noncomputable def obOf_Match_asdict (P : Params) : Obj := o114 P
noncomputable def o115 (P : Params) : Obj := ⟨(.type "tuple"), none, (.seq (List.toArray []) 0), List.toArray []⟩
noncomputable def o116 (P : Params) : Obj := ⟨.none, none, (.fields (List.toArray [])), List.toArray []⟩
noncomputable def o117 (P : Params) : Obj := ⟨(.type "tuple"), none, (.seq (List.toArray [(.str (Str.ofString "self") 337)]) 0), List.toArray []⟩
noncomputable def o118 (P : Params) : Obj := ⟨(.type "tuple"), none, (.seq (List.toArray []) 0), List.toArray []⟩
noncomputable def o119B (B : List Stmt) (P : Params) : Obj := ⟨.none, none, (.func { name := (Str.ofString "__getnewargs__"), qualname := (Str.ofString "Match.__getnewargs__"), params := argsN (stN (bodyN (stN B 3)) 10), body := .stmts (bodyN (stN (bodyN (stN B 3)) 10)), scope := scopeN (stN (bodyN (stN B 3)) 10), globals := 0, closure := [], defaults := .none, kwdefaults := .none, doc := .none, pyModule := .none, annotations := none, code := .none, closureTuple := .none, builtins := 0 }), List.toArray []⟩
noncomputable def o119 (P : Params) : Obj := o119B pwBody P
noncomputable def o120 (P : Params) : Obj := ⟨(.type "code"), none, (.fields (List.toArray [(.str (Str.ofString "__getnewargs__") 334), (.str (Str.ofString "Match.__getnewargs__") 335), (.str (Str.ofString "/claim/cut.py") 336), (.int 59 0), (.int 1 0), (.int 0 0), (.int 0 0), (.int 3 0), (.ref 115), (.bool true), (.int 181 0), (.ref 116), .none, (.ref 117), (.ref 118), (.ref 119), (.int 338 0), (.int 59 0), (.str (Str.ofString "/claim/cut.py") 339)])), List.toArray []⟩
noncomputable def fd121B (B : List Stmt) : FuncData := { name := (Str.ofString "__getnewargs__"), qualname := (Str.ofString "Match.__getnewargs__"), params := argsN (stN (bodyN (stN B 3)) 10), body := .stmts (bodyN (stN (bodyN (stN B 3)) 10)), scope := scopeN (stN (bodyN (stN B 3)) 10), globals := 3, closure := [], defaults := .none, kwdefaults := .none, doc := (.str (Str.ofString "Return self as a plain tuple.  Used by copy and pickle.") 340), pyModule := (.str (Str.ofString "cpy313.difflib") 194), annotations := none, code := (.ref 120), closureTuple := .none, builtins := 0 }
noncomputable def fd121 : FuncData := fd121B pwBody
noncomputable def at_Match_getnewargs : Addr := 121
noncomputable def fdOf_Match_getnewargs : FuncData := fd121
noncomputable def o121B (B : List Stmt) (P : Params) : Obj := ⟨(.type "function"), none, (.func (fd121B B)), List.toArray []⟩
noncomputable def o121 (P : Params) : Obj := o121B pwBody P
noncomputable def obOf_Match_getnewargs (P : Params) : Obj := o121 P
noncomputable def o122 (P : Params) : Obj := ⟨(.type "tuple"), none, (.seq (List.toArray [(.str (Str.ofString "a") 342), (.str (Str.ofString "b") 343), (.str (Str.ofString "size") 344)]) 0), List.toArray []⟩
noncomputable def o123 (P : Params) : Obj := ⟨(.type "dict"), none, (.dict (List.toArray [⟨PyData.keyHash P (Str.ofString "index"), (.str (Str.ofString "index") 352), (.int 0 346)⟩, ⟨PyData.keyHash P (Str.ofString "__doc__"), (.str (Str.ofString "__doc__") 354), (.str (Str.ofString "Alias for field number 0") 347)⟩]) 2), List.toArray []⟩
noncomputable def o124 (P : Params) : Obj := ⟨(.ref 60), (some 123), .plain, List.toArray []⟩
noncomputable def o125 (P : Params) : Obj := ⟨(.type "frame"), none, (.dict (List.toArray [⟨PyData.keyHash P (Str.ofString "self"), (.str (Str.ofString "self") 348), (.ref 124)⟩, ⟨PyData.keyHash P (Str.ofString "index"), (.str (Str.ofString "index") 349), (.int 0 346)⟩, ⟨PyData.keyHash P (Str.ofString "doc"), (.str (Str.ofString "doc") 350), (.str (Str.ofString "Alias for field number 0") 347)⟩]) 3), List.toArray []⟩
noncomputable def o126 (P : Params) : Obj := ⟨(.type "dict"), none, (.dict (List.toArray [⟨PyData.keyHash P (Str.ofString "index"), (.str (Str.ofString "index") 362), (.int 1 356)⟩, ⟨PyData.keyHash P (Str.ofString "__doc__"), (.str (Str.ofString "__doc__") 364), (.str (Str.ofString "Alias for field number 1") 357)⟩]) 2), List.toArray []⟩
noncomputable def o127 (P : Params) : Obj := ⟨(.ref 60), (some 126), .plain, List.toArray []⟩
noncomputable def o128 (P : Params) : Obj := ⟨(.type "frame"), none, (.dict (List.toArray [⟨PyData.keyHash P (Str.ofString "self"), (.str (Str.ofString "self") 358), (.ref 127)⟩, ⟨PyData.keyHash P (Str.ofString "index"), (.str (Str.ofString "index") 359), (.int 1 356)⟩, ⟨PyData.keyHash P (Str.ofString "doc"), (.str (Str.ofString "doc") 360), (.str (Str.ofString "Alias for field number 1") 357)⟩]) 3), List.toArray []⟩
noncomputable def o129 (P : Params) : Obj := ⟨(.type "dict"), none, (.dict (List.toArray [⟨PyData.keyHash P (Str.ofString "index"), (.str (Str.ofString "index") 372), (.int 2 366)⟩, ⟨PyData.keyHash P (Str.ofString "__doc__"), (.str (Str.ofString "__doc__") 374), (.str (Str.ofString "Alias for field number 2") 367)⟩]) 2), List.toArray []⟩
noncomputable def o130 (P : Params) : Obj := ⟨(.ref 60), (some 129), .plain, List.toArray []⟩
noncomputable def o131 (P : Params) : Obj := ⟨(.type "frame"), none, (.dict (List.toArray [⟨PyData.keyHash P (Str.ofString "self"), (.str (Str.ofString "self") 368), (.ref 130)⟩, ⟨PyData.keyHash P (Str.ofString "index"), (.str (Str.ofString "index") 369), (.int 2 366)⟩, ⟨PyData.keyHash P (Str.ofString "doc"), (.str (Str.ofString "doc") 370), (.str (Str.ofString "Alias for field number 2") 367)⟩]) 3), List.toArray []⟩
noncomputable def o132 (P : Params) : Obj := ⟨(.type "tuple"), none, (.seq (List.toArray []) 0), List.toArray []⟩
noncomputable def o133 (P : Params) : Obj := ⟨(.type "list"), none, (.seq (List.toArray []) 0), List.toArray []⟩
noncomputable def o134 (P : Params) : Obj := ⟨(.type "dict"), none, (.dict (List.toArray [⟨PyData.keyHash P (Str.ofString "__module__"), (.str (Str.ofString "__module__") 260), (.str (Str.ofString "cpy313.difflib") 194)⟩, ⟨PyData.keyHash P (Str.ofString "__firstlineno__"), (.str (Str.ofString "__firstlineno__") 264), (.int 23 263)⟩, ⟨PyData.keyHash P (Str.ofString "__doc__"), (.str (Str.ofString "__doc__") 266), (.str (Str.ofString "Match(a, b, size)") 265)⟩, ⟨PyData.keyHash P (Str.ofString "__slots__"), (.str (Str.ofString "__slots__") 268), (.ref 73)⟩, ⟨PyData.keyHash P (Str.ofString "_fields"), (.str (Str.ofString "_fields") 272), (.ref 74)⟩, ⟨PyData.keyHash P (Str.ofString "_field_defaults"), (.str (Str.ofString "_field_defaults") 273), (.ref 75)⟩, ⟨PyData.keyHash P (Str.ofString "__new__"), (.str (Str.ofString "__new__") 284), (.ref 136)⟩, ⟨PyData.keyHash P (Str.ofString "_make"), (.str (Str.ofString "_make") 306), (.ref 91)⟩, ⟨PyData.keyHash P (Str.ofString "_replace"), (.str (Str.ofString "_replace") 317), (.ref 100)⟩, ⟨PyData.keyHash P (Str.ofString "__replace__"), (.str (Str.ofString "__replace__") 318), (.ref 100)⟩, ⟨PyData.keyHash P (Str.ofString "__repr__"), (.str (Str.ofString "__repr__") 326), (.ref 107)⟩, ⟨PyData.keyHash P (Str.ofString "_asdict"), (.str (Str.ofString "_asdict") 333), (.ref 114)⟩, ⟨PyData.keyHash P (Str.ofString "__getnewargs__"), (.str (Str.ofString "__getnewargs__") 341), (.ref 121)⟩, ⟨PyData.keyHash P (Str.ofString "__match_args__"), (.str (Str.ofString "__match_args__") 345), (.ref 122)⟩, ⟨PyData.keyHash P (Str.ofString "a"), (.str (Str.ofString "a") 355), (.ref 124)⟩, ⟨PyData.keyHash P (Str.ofString "b"), (.str (Str.ofString "b") 365), (.ref 127)⟩, ⟨PyData.keyHash P (Str.ofString "size"), (.str (Str.ofString "size") 375), (.ref 130)⟩, ⟨PyData.keyHash P (Str.ofString "__static_attributes__"), (.str (Str.ofString "__static_attributes__") 376), (.ref 132)⟩]) 2), List.toArray []⟩
noncomputable def at_Match : Addr := 135
noncomputable def o135 (P : Params) : Obj := ⟨(.type "type"), none, (.cls { name := (Str.ofString "Match"), bases := [(.type "tuple")], mro := [(.ref 135), (.type "tuple"), (.type "object")], ns := 134, qualname := (Str.ofString "Match"), hasDict := false, slotNames := [], subclasses := [], abstract := false, collection := none, hasDel := false }), List.toArray [(some (.ref 65)), none, (some (.str (Str.ofString "Match") 253)), (some (.str (Str.ofString "Match") 261)), (some .none), (some (.bool false))]⟩
noncomputable def o136 (P : Params) : Obj := ⟨(.type "staticmethod"), none, (.fields (List.toArray [(.ref 82)])), List.toArray []⟩
noncomputable def o137 (P : Params) : Obj := ⟨(.type "super"), none, (.fields (List.toArray [(.ref 135), (.ref 135), (.ref 135)])), List.toArray []⟩
noncomputable def o138 (P : Params) : Obj := ⟨(.type "builtin_function_or_method"), none, (.fields (List.toArray [(.builtin "object.__init_subclass__"), (.ref 135)])), List.toArray []⟩
noncomputable def o139 (P : Params) : Obj := ⟨(.type "tuple"), none, (.seq (List.toArray []) 0), List.toArray []⟩
noncomputable def o140 (P : Params) : Obj := ⟨.none, none, (.fields (List.toArray [])), List.toArray []⟩
noncomputable def o141 (P : Params) : Obj := ⟨(.type "tuple"), none, (.seq (List.toArray [(.str (Str.ofString "matches") 384), (.str (Str.ofString "length") 385)]) 0), List.toArray []⟩
noncomputable def o142 (P : Params) : Obj := ⟨(.type "tuple"), none, (.seq (List.toArray []) 0), List.toArray []⟩
noncomputable def o143B (B : List Stmt) (P : Params) : Obj := ⟨.none, none, (.func { name := (Str.ofString "_calculate_ratio"), qualname := (Str.ofString "_calculate_ratio"), params := argsN (stN B 4), body := .stmts (bodyN (stN B 4)), scope := scopeN (stN B 4), globals := 0, closure := [], defaults := .none, kwdefaults := .none, doc := .none, pyModule := .none, annotations := none, code := .none, closureTuple := .none, builtins := 0 }), List.toArray []⟩
noncomputable def o143 (P : Params) : Obj := o143B pwBody P
noncomputable def o144 (P : Params) : Obj := ⟨(.type "code"), none, (.fields (List.toArray [(.str (Str.ofString "_calculate_ratio") 381), (.str (Str.ofString "_calculate_ratio") 382), (.str (Str.ofString "/claim/cut.py") 383), (.int 66 0), (.int 2 0), (.int 0 0), (.int 0 0), (.int 3 0), (.ref 139), (.bool true), (.int 181 0), (.ref 140), .none, (.ref 141), (.ref 142), (.ref 143), (.int 386 0), (.int 66 0), (.str (Str.ofString "/claim/cut.py") 387)])), List.toArray []⟩
noncomputable def fd145B (B : List Stmt) : FuncData := { name := (Str.ofString "_calculate_ratio"), qualname := (Str.ofString "_calculate_ratio"), params := argsN (stN B 4), body := .stmts (bodyN (stN B 4)), scope := scopeN (stN B 4), globals := 3, closure := [], defaults := .none, kwdefaults := .none, doc := .none, pyModule := (.str (Str.ofString "cpy313.difflib") 194), annotations := none, code := (.ref 144), closureTuple := .none, builtins := 0 }
noncomputable def fd145 : FuncData := fd145B pwBody
noncomputable def at_calculate_ratio : Addr := 145
noncomputable def fdOf_calculate_ratio : FuncData := fd145
noncomputable def o145B (B : List Stmt) (P : Params) : Obj := ⟨(.type "function"), none, (.func (fd145B B)), List.toArray []⟩
noncomputable def o145 (P : Params) : Obj := o145B pwBody P
noncomputable def obOf_calculate_ratio (P : Params) : Obj := o145 P
noncomputable def o146 (P : Params) : Obj := ⟨(.type "tuple"), none, (.seq (List.toArray []) 0), List.toArray []⟩
noncomputable def o147 (P : Params) : Obj := ⟨(.type "builtin_function_or_method"), none, (.fields (List.toArray [(.builtin "type.__prepare__"), (.type "type")])), List.toArray []⟩
noncomputable def o148B (B : List Stmt) (P : Params) : Obj := ⟨(.type "dict"), none, (.dict (List.toArray [⟨PyData.keyHash P (Str.ofString "__module__"), (.str (Str.ofString "__module__") 396), (.str (Str.ofString "cpy313.difflib") 194)⟩, ⟨PyData.keyHash P (Str.ofString "__qualname__"), (.str (Str.ofString "__qualname__") 398), (.str (Str.ofString "SequenceMatcher") 397)⟩, ⟨PyData.keyHash P (Str.ofString "__firstlineno__"), (.str (Str.ofString "__firstlineno__") 400), (.int 70 399)⟩, ⟨PyData.keyHash P (Str.ofString "__doc__"), (.str (Str.ofString "__doc__") 402), (.str (docN (bodyN (stN B 5))) 401)⟩, ⟨PyData.keyHash P (Str.ofString "__init__"), (.str (Str.ofString "__init__") 417), (.ref 160)⟩, ⟨PyData.keyHash P (Str.ofString "set_seqs"), (.str (Str.ofString "set_seqs") 427), (.ref 167)⟩, ⟨PyData.keyHash P (Str.ofString "set_seq1"), (.str (Str.ofString "set_seq1") 436), (.ref 174)⟩, ⟨PyData.keyHash P (Str.ofString "set_seq2"), (.str (Str.ofString "set_seq2") 445), (.ref 181)⟩, ⟨PyData.keyHash P (Str.ofString "_SequenceMatcher__chain_b"), (.str (Str.ofString "_SequenceMatcher__chain_b") 463), (.ref 188)⟩, ⟨PyData.keyHash P (Str.ofString "find_longest_match"), (.str (Str.ofString "find_longest_match") 491), (.ref 196)⟩, ⟨PyData.keyHash P (Str.ofString "get_matching_blocks"), (.str (Str.ofString "get_matching_blocks") 518), (.ref 203)⟩, ⟨PyData.keyHash P (Str.ofString "get_opcodes"), (.str (Str.ofString "get_opcodes") 525), (.ref 210)⟩, ⟨PyData.keyHash P (Str.ofString "get_grouped_opcodes"), (.str (Str.ofString "get_grouped_opcodes") 534), (.ref 218)⟩, ⟨PyData.keyHash P (Str.ofString "ratio"), (.str (Str.ofString "ratio") 543), (.ref 225)⟩, ⟨PyData.keyHash P (Str.ofString "quick_ratio"), (.str (Str.ofString "quick_ratio") 550), (.ref 232)⟩, ⟨PyData.keyHash P (Str.ofString "real_quick_ratio"), (.str (Str.ofString "real_quick_ratio") 557), (.ref 239)⟩, ⟨PyData.keyHash P (Str.ofString "__static_attributes__"), (.str (Str.ofString "__static_attributes__") 568), (.ref 240)⟩]) 17), List.toArray []⟩
noncomputable def o148 (P : Params) : Obj := o148B pwBody P
noncomputable def o149 (P : Params) : Obj := ⟨(.type "tuple"), none, (.seq (List.toArray []) 0), List.toArray []⟩
noncomputable def o150 (P : Params) : Obj := ⟨.none, none, (.fields (List.toArray [(.int 145 0), (.int 4 0), (.ref 159), (.int 173 0), (.int 4 0), (.ref 166), (.int 184 0), (.int 4 0), (.ref 173), (.int 209 0), (.int 4 0), (.ref 180), (.int 236 0), (.int 4 0), (.ref 187), (.int 260 0), (.int 4 0), (.ref 195), (.int 335 0), (.int 4 0), (.ref 202), (.int 383 0), (.int 4 0), (.ref 209), (.int 386 0), (.int 4 0), (.ref 217), (.int 389 0), (.int 4 0), (.ref 224), (.int 413 0), (.int 4 0), (.ref 231), (.int 416 0), (.int 4 0), (.ref 238)])), List.toArray []⟩
noncomputable def o151 (P : Params) : Obj := ⟨(.type "code"), none, (.fields (List.toArray [(.str (Str.ofString "SequenceMatcher") 391), (.str (Str.ofString "SequenceMatcher") 392), (.str (Str.ofString "/claim/cut.py") 393), (.int 70 0), (.int 0 0), (.int 0 0), (.int 0 0), (.int 0 0), (.ref 149), (.bool false), (.int 181 0), (.ref 150), .none, .none, .none, .none, (.int 394 0), (.int 70 0), (.str (Str.ofString "/claim/cut.py") 395)])), List.toArray []⟩
noncomputable def o152 (P : Params) : Obj := ⟨(.type "frame"), none, .plain, List.toArray [(some (.ref 151)), (some (.ref 3)), (some (.ref 148)), none, (some (.str (Str.ofString "cpy313.difflib") 194)), none, (some (.ref 0))]⟩
noncomputable def o153 (P : Params) : Obj := ⟨(.type "tuple"), none, (.seq (List.toArray [.none, (.str (Str.ofString "") 404), (.str (Str.ofString "") 405), (.bool true)]) 0), List.toArray []⟩
noncomputable def o154 (P : Params) : Obj := ⟨(.type "tuple"), none, (.seq (List.toArray []) 0), List.toArray []⟩
noncomputable def o155 (P : Params) : Obj := ⟨.none, none, (.fields (List.toArray [])), List.toArray []⟩
noncomputable def o156 (P : Params) : Obj := ⟨(.type "tuple"), none, (.seq (List.toArray [(.str (Str.ofString "self") 409), (.str (Str.ofString "isjunk") 410), (.str (Str.ofString "a") 411), (.str (Str.ofString "b") 412), (.str (Str.ofString "autojunk") 413)]) 0), List.toArray []⟩
noncomputable def o157 (P : Params) : Obj := ⟨(.type "tuple"), none, (.seq (List.toArray []) 0), List.toArray []⟩
noncomputable def o158B (B : List Stmt) (P : Params) : Obj := ⟨.none, none, (.func { name := (Str.ofString "__init__"), qualname := (Str.ofString "SequenceMatcher.__init__"), params := argsN (stN (bodyN (stN B 5)) 1), body := .stmts (bodyN (stN (bodyN (stN B 5)) 1)), scope := scopeN (stN (bodyN (stN B 5)) 1), globals := 0, closure := [], defaults := .none, kwdefaults := .none, doc := .none, pyModule := .none, annotations := none, code := .none, closureTuple := .none, builtins := 0 }), List.toArray []⟩
noncomputable def o158 (P : Params) : Obj := o158B pwBody P
noncomputable def o159 (P : Params) : Obj := ⟨(.type "code"), none, (.fields (List.toArray [(.str (Str.ofString "__init__") 406), (.str (Str.ofString "SequenceMatcher.__init__") 407), (.str (Str.ofString "/claim/cut.py") 408), (.int 145 0), (.int 5 0), (.int 0 0), (.int 0 0), (.int 3 0), (.ref 154), (.bool true), (.int 181 0), (.ref 155), .none, (.ref 156), (.ref 157), (.ref 158), (.int 414 0), (.int 145 0), (.str (Str.ofString "/claim/cut.py") 415)])), List.toArray []⟩
noncomputable def fd160B (B : List Stmt) : FuncData := { name := (Str.ofString "__init__"), qualname := (Str.ofString "SequenceMatcher.__init__"), params := argsN (stN (bodyN (stN B 5)) 1), body := .stmts (bodyN (stN (bodyN (stN B 5)) 1)), scope := scopeN (stN (bodyN (stN B 5)) 1), globals := 3, closure := [], defaults := (.ref 153), kwdefaults := .none, doc := (.str (docN (bodyN (stN (bodyN (stN B 5)) 1))) 416), pyModule := (.str (Str.ofString "cpy313.difflib") 194), annotations := none, code := (.ref 159), closureTuple := .none, builtins := 0 }
noncomputable def fd160 : FuncData := fd160B pwBody
noncomputable def at_SequenceMatcher_init : Addr := 160
noncomputable def fdOf_SequenceMatcher_init : FuncData := fd160
noncomputable def o160B (B : List Stmt) (P : Params) : Obj := ⟨(.type "function"), none, (.func (fd160B B)), List.toArray []⟩
noncomputable def o160 (P : Params) : Obj := o160B pwBody P
noncomputable def obOf_SequenceMatcher_init (P : Params) : Obj := o160 P
noncomputable def o161 (P : Params) : Obj := ⟨(.type "tuple"), none, (.seq (List.toArray []) 0), List.toArray []⟩
noncomputable def o162 (P : Params) : Obj := ⟨.none, none, (.fields (List.toArray [])), List.toArray []⟩
noncomputable def o163 (P : Params) : Obj := ⟨(.type "tuple"), none, (.seq (List.toArray [(.str (Str.ofString "self") 421), (.str (Str.ofString "a") 422), (.str (Str.ofString "b") 423)]) 0), List.toArray []⟩
noncomputable def o164 (P : Params) : Obj := ⟨(.type "tuple"), none, (.seq (List.toArray []) 0), List.toArray []⟩
noncomputable def o165B (B : List Stmt) (P : Params) : Obj := ⟨.none, none, (.func { name := (Str.ofString "set_seqs"), qualname := (Str.ofString "SequenceMatcher.set_seqs"), params := argsN (stN (bodyN (stN B 5)) 2), body := .stmts (bodyN (stN (bodyN (stN B 5)) 2)), scope := scopeN (stN (bodyN (stN B 5)) 2), globals := 0, closure := [], defaults := .none, kwdefaults := .none, doc := .none, pyModule := .none, annotations := none, code := .none, closureTuple := .none, builtins := 0 }), List.toArray []⟩
noncomputable def o165 (P : Params) : Obj := o165B pwBody P
noncomputable def o166 (P : Params) : Obj := ⟨(.type "code"), none, (.fields (List.toArray [(.str (Str.ofString "set_seqs") 418), (.str (Str.ofString "SequenceMatcher.set_seqs") 419), (.str (Str.ofString "/claim/cut.py") 420), (.int 173 0), (.int 3 0), (.int 0 0), (.int 0 0), (.int 3 0), (.ref 161), (.bool true), (.int 181 0), (.ref 162), .none, (.ref 163), (.ref 164), (.ref 165), (.int 424 0), (.int 173 0), (.str (Str.ofString "/claim/cut.py") 425)])), List.toArray []⟩
noncomputable def fd167B (B : List Stmt) : FuncData := { name := (Str.ofString "set_seqs"), qualname := (Str.ofString "SequenceMatcher.set_seqs"), params := argsN (stN (bodyN (stN B 5)) 2), body := .stmts (bodyN (stN (bodyN (stN B 5)) 2)), scope := scopeN (stN (bodyN (stN B 5)) 2), globals := 3, closure := [], defaults := .none, kwdefaults := .none, doc := (.str (docN (bodyN (stN (bodyN (stN B 5)) 2))) 426), pyModule := (.str (Str.ofString "cpy313.difflib") 194), annotations := none, code := (.ref 166), closureTuple := .none, builtins := 0 }
noncomputable def fd167 : FuncData := fd167B pwBody
noncomputable def at_SequenceMatcher_set_seqs : Addr := 167
noncomputable def fdOf_SequenceMatcher_set_seqs : FuncData := fd167
noncomputable def o167B (B : List Stmt) (P : Params) : Obj := ⟨(.type "function"), none, (.func (fd167B B)), List.toArray []⟩
noncomputable def o167 (P : Params) : Obj := o167B pwBody P
noncomputable def obOf_SequenceMatcher_set_seqs (P : Params) : Obj := o167 P
noncomputable def o168 (P : Params) : Obj := ⟨(.type "tuple"), none, (.seq (List.toArray []) 0), List.toArray []⟩
noncomputable def o169 (P : Params) : Obj := ⟨.none, none, (.fields (List.toArray [])), List.toArray []⟩
noncomputable def o170 (P : Params) : Obj := ⟨(.type "tuple"), none, (.seq (List.toArray [(.str (Str.ofString "self") 431), (.str (Str.ofString "a") 432)]) 0), List.toArray []⟩
noncomputable def o171 (P : Params) : Obj := ⟨(.type "tuple"), none, (.seq (List.toArray []) 0), List.toArray []⟩
noncomputable def o172B (B : List Stmt) (P : Params) : Obj := ⟨.none, none, (.func { name := (Str.ofString "set_seq1"), qualname := (Str.ofString "SequenceMatcher.set_seq1"), params := argsN (stN (bodyN (stN B 5)) 3), body := .stmts (bodyN (stN (bodyN (stN B 5)) 3)), scope := scopeN (stN (bodyN (stN B 5)) 3), globals := 0, closure := [], defaults := .none, kwdefaults := .none, doc := .none, pyModule := .none, annotations := none, code := .none, closureTuple := .none, builtins := 0 }), List.toArray []⟩
noncomputable def o172 (P : Params) : Obj := o172B pwBody P
noncomputable def o173 (P : Params) : Obj := ⟨(.type "code"), none, (.fields (List.toArray [(.str (Str.ofString "set_seq1") 428), (.str (Str.ofString "SequenceMatcher.set_seq1") 429), (.str (Str.ofString "/claim/cut.py") 430), (.int 184 0), (.int 2 0), (.int 0 0), (.int 0 0), (.int 3 0), (.ref 168), (.bool true), (.int 181 0), (.ref 169), .none, (.ref 170), (.ref 171), (.ref 172), (.int 433 0), (.int 184 0), (.str (Str.ofString "/claim/cut.py") 434)])), List.toArray []⟩
noncomputable def fd174B (B : List Stmt) : FuncData := { name := (Str.ofString "set_seq1"), qualname := (Str.ofString "SequenceMatcher.set_seq1"), params := argsN (stN (bodyN (stN B 5)) 3), body := .stmts (bodyN (stN (bodyN (stN B 5)) 3)), scope := scopeN (stN (bodyN (stN B 5)) 3), globals := 3, closure := [], defaults := .none, kwdefaults := .none, doc := (.str (docN (bodyN (stN (bodyN (stN B 5)) 3))) 435), pyModule := (.str (Str.ofString "cpy313.difflib") 194), annotations := none, code := (.ref 173), closureTuple := .none, builtins := 0 }
noncomputable def fd174 : FuncData := fd174B pwBody
noncomputable def at_SequenceMatcher_set_seq1 : Addr := 174
noncomputable def fdOf_SequenceMatcher_set_seq1 : FuncData := fd174
noncomputable def o174B (B : List Stmt) (P : Params) : Obj := ⟨(.type "function"), none, (.func (fd174B B)), List.toArray []⟩
noncomputable def o174 (P : Params) : Obj := o174B pwBody P
noncomputable def obOf_SequenceMatcher_set_seq1 (P : Params) : Obj := o174 P
noncomputable def o175 (P : Params) : Obj := ⟨(.type "tuple"), none, (.seq (List.toArray []) 0), List.toArray []⟩
noncomputable def o176 (P : Params) : Obj := ⟨.none, none, (.fields (List.toArray [])), List.toArray []⟩
noncomputable def o177 (P : Params) : Obj := ⟨(.type "tuple"), none, (.seq (List.toArray [(.str (Str.ofString "self") 440), (.str (Str.ofString "b") 441)]) 0), List.toArray []⟩
noncomputable def o178 (P : Params) : Obj := ⟨(.type "tuple"), none, (.seq (List.toArray []) 0), List.toArray []⟩
noncomputable def o179B (B : List Stmt) (P : Params) : Obj := ⟨.none, none, (.func { name := (Str.ofString "set_seq2"), qualname := (Str.ofString "SequenceMatcher.set_seq2"), params := argsN (stN (bodyN (stN B 5)) 4), body := .stmts (bodyN (stN (bodyN (stN B 5)) 4)), scope := scopeN (stN (bodyN (stN B 5)) 4), globals := 0, closure := [], defaults := .none, kwdefaults := .none, doc := .none, pyModule := .none, annotations := none, code := .none, closureTuple := .none, builtins := 0 }), List.toArray []⟩
noncomputable def o179 (P : Params) : Obj := o179B pwBody P
noncomputable def o180 (P : Params) : Obj := ⟨(.type "code"), none, (.fields (List.toArray [(.str (Str.ofString "set_seq2") 437), (.str (Str.ofString "SequenceMatcher.set_seq2") 438), (.str (Str.ofString "/claim/cut.py") 439), (.int 209 0), (.int 2 0), (.int 0 0), (.int 0 0), (.int 3 0), (.ref 175), (.bool true), (.int 181 0), (.ref 176), .none, (.ref 177), (.ref 178), (.ref 179), (.int 442 0), (.int 209 0), (.str (Str.ofString "/claim/cut.py") 443)])), List.toArray []⟩
noncomputable def fd181B (B : List Stmt) : FuncData := { name := (Str.ofString "set_seq2"), qualname := (Str.ofString "SequenceMatcher.set_seq2"), params := argsN (stN (bodyN (stN B 5)) 4), body := .stmts (bodyN (stN (bodyN (stN B 5)) 4)), scope := scopeN (stN (bodyN (stN B 5)) 4), globals := 3, closure := [], defaults := .none, kwdefaults := .none, doc := (.str (docN (bodyN (stN (bodyN (stN B 5)) 4))) 444), pyModule := (.str (Str.ofString "cpy313.difflib") 194), annotations := none, code := (.ref 180), closureTuple := .none, builtins := 0 }
noncomputable def fd181 : FuncData := fd181B pwBody
noncomputable def at_SequenceMatcher_set_seq2 : Addr := 181
noncomputable def fdOf_SequenceMatcher_set_seq2 : FuncData := fd181
noncomputable def o181B (B : List Stmt) (P : Params) : Obj := ⟨(.type "function"), none, (.func (fd181B B)), List.toArray []⟩
noncomputable def o181 (P : Params) : Obj := o181B pwBody P
noncomputable def obOf_SequenceMatcher_set_seq2 (P : Params) : Obj := o181 P
noncomputable def o182 (P : Params) : Obj := ⟨(.type "tuple"), none, (.seq (List.toArray []) 0), List.toArray []⟩
noncomputable def o183 (P : Params) : Obj := ⟨.none, none, (.fields (List.toArray [])), List.toArray []⟩
noncomputable def o184 (P : Params) : Obj := ⟨(.type "tuple"), none, (.seq (List.toArray [(.str (Str.ofString "self") 449), (.str (Str.ofString "b") 450), (.str (Str.ofString "b2j") 451), (.str (Str.ofString "i") 452), (.str (Str.ofString "elt") 453), (.str (Str.ofString "indices") 454), (.str (Str.ofString "junk") 455), (.str (Str.ofString "isjunk") 456), (.str (Str.ofString "popular") 457), (.str (Str.ofString "n") 458), (.str (Str.ofString "ntest") 459), (.str (Str.ofString "idxs") 460)]) 0), List.toArray []⟩
noncomputable def o185 (P : Params) : Obj := ⟨(.type "tuple"), none, (.seq (List.toArray []) 0), List.toArray []⟩
noncomputable def o186B (B : List Stmt) (P : Params) : Obj := ⟨.none, none, (.func { name := (Str.ofString "__chain_b"), qualname := (Str.ofString "SequenceMatcher.__chain_b"), params := argsN (stN (bodyN (stN B 5)) 5), body := .stmts (bodyN (stN (bodyN (stN B 5)) 5)), scope := scopeN (stN (bodyN (stN B 5)) 5), globals := 0, closure := [], defaults := .none, kwdefaults := .none, doc := .none, pyModule := .none, annotations := none, code := .none, closureTuple := .none, builtins := 0 }), List.toArray []⟩
noncomputable def o186 (P : Params) : Obj := o186B pwBody P
noncomputable def o187 (P : Params) : Obj := ⟨(.type "code"), none, (.fields (List.toArray [(.str (Str.ofString "__chain_b") 446), (.str (Str.ofString "SequenceMatcher.__chain_b") 447), (.str (Str.ofString "/claim/cut.py") 448), (.int 236 0), (.int 1 0), (.int 0 0), (.int 0 0), (.int 3 0), (.ref 182), (.bool true), (.int 181 0), (.ref 183), .none, (.ref 184), (.ref 185), (.ref 186), (.int 461 0), (.int 236 0), (.str (Str.ofString "/claim/cut.py") 462)])), List.toArray []⟩
noncomputable def fd188B (B : List Stmt) : FuncData := { name := (Str.ofString "__chain_b"), qualname := (Str.ofString "SequenceMatcher.__chain_b"), params := argsN (stN (bodyN (stN B 5)) 5), body := .stmts (bodyN (stN (bodyN (stN B 5)) 5)), scope := scopeN (stN (bodyN (stN B 5)) 5), globals := 3, closure := [], defaults := .none, kwdefaults := .none, doc := .none, pyModule := (.str (Str.ofString "cpy313.difflib") 194), annotations := none, code := (.ref 187), closureTuple := .none, builtins := 0 }
noncomputable def fd188 : FuncData := fd188B pwBody
noncomputable def at_SequenceMatcher_chain_b : Addr := 188
noncomputable def fdOf_SequenceMatcher_chain_b : FuncData := fd188
noncomputable def o188B (B : List Stmt) (P : Params) : Obj := ⟨(.type "function"), none, (.func (fd188B B)), List.toArray []⟩
noncomputable def o188 (P : Params) : Obj := o188B pwBody P
noncomputable def obOf_SequenceMatcher_chain_b (P : Params) : Obj := o188 P
noncomputable def o189 (P : Params) : Obj := ⟨(.type "tuple"), none, (.seq (List.toArray [(.int 0 464), .none, (.int 0 465), .none]) 0), List.toArray []⟩
noncomputable def o190 (P : Params) : Obj := ⟨(.type "tuple"), none, (.seq (List.toArray []) 0), List.toArray []⟩
noncomputable def o191 (P : Params) : Obj := ⟨.none, none, (.fields (List.toArray [])), List.toArray []⟩
noncomputable def o192 (P : Params) : Obj := ⟨(.type "tuple"), none, (.seq (List.toArray [(.str (Str.ofString "self") 469), (.str (Str.ofString "alo") 470), (.str (Str.ofString "ahi") 471), (.str (Str.ofString "blo") 472), (.str (Str.ofString "bhi") 473), (.str (Str.ofString "a") 474), (.str (Str.ofString "b") 475), (.str (Str.ofString "b2j") 476), (.str (Str.ofString "isbjunk") 477), (.str (Str.ofString "besti") 478), (.str (Str.ofString "bestj") 479), (.str (Str.ofString "bestsize") 480), (.str (Str.ofString "j2len") 481), (.str (Str.ofString "nothing") 482), (.str (Str.ofString "i") 483), (.str (Str.ofString "j2lenget") 484), (.str (Str.ofString "newj2len") 485), (.str (Str.ofString "j") 486), (.str (Str.ofString "k") 487)]) 0), List.toArray []⟩
noncomputable def o193 (P : Params) : Obj := ⟨(.type "tuple"), none, (.seq (List.toArray []) 0), List.toArray []⟩
noncomputable def o194B (B : List Stmt) (P : Params) : Obj := ⟨.none, none, (.func { name := (Str.ofString "find_longest_match"), qualname := (Str.ofString "SequenceMatcher.find_longest_match"), params := argsN (stN (bodyN (stN B 5)) 6), body := .stmts (bodyN (stN (bodyN (stN B 5)) 6)), scope := scopeN (stN (bodyN (stN B 5)) 6), globals := 0, closure := [], defaults := .none, kwdefaults := .none, doc := .none, pyModule := .none, annotations := none, code := .none, closureTuple := .none, builtins := 0 }), List.toArray []⟩
noncomputable def o194 (P : Params) : Obj := o194B pwBody P
noncomputable def o195 (P : Params) : Obj := ⟨(.type "code"), none, (.fields (List.toArray [(.str (Str.ofString "find_longest_match") 466), (.str (Str.ofString "SequenceMatcher.find_longest_match") 467), (.str (Str.ofString "/claim/cut.py") 468), (.int 260 0), (.int 5 0), (.int 0 0), (.int 0 0), (.int 3 0), (.ref 190), (.bool true), (.int 181 0), (.ref 191), .none, (.ref 192), (.ref 193), (.ref 194), (.int 488 0), (.int 260 0), (.str (Str.ofString "/claim/cut.py") 489)])), List.toArray []⟩
noncomputable def fd196B (B : List Stmt) : FuncData := { name := (Str.ofString "find_longest_match"), qualname := (Str.ofString "SequenceMatcher.find_longest_match"), params := argsN (stN (bodyN (stN B 5)) 6), body := .stmts (bodyN (stN (bodyN (stN B 5)) 6)), scope := scopeN (stN (bodyN (stN B 5)) 6), globals := 3, closure := [], defaults := (.ref 189), kwdefaults := .none, doc := (.str (docN (bodyN (stN (bodyN (stN B 5)) 6))) 490), pyModule := (.str (Str.ofString "cpy313.difflib") 194), annotations := none, code := (.ref 195), closureTuple := .none, builtins := 0 }
noncomputable def fd196 : FuncData := fd196B pwBody
noncomputable def at_SequenceMatcher_find_longest_match : Addr := 196
noncomputable def fdOf_SequenceMatcher_find_longest_match : FuncData := fd196
noncomputable def o196B (B : List Stmt) (P : Params) : Obj := ⟨(.type "function"), none, (.func (fd196B B)), List.toArray []⟩
noncomputable def o196 (P : Params) : Obj := o196B pwBody P
noncomputable def obOf_SequenceMatcher_find_longest_match (P : Params) : Obj := o196 P
noncomputable def o197 (P : Params) : Obj := ⟨(.type "tuple"), none, (.seq (List.toArray []) 0), List.toArray []⟩
noncomputable def o198 (P : Params) : Obj := ⟨.none, none, (.fields (List.toArray [])), List.toArray []⟩
noncomputable def o199 (P : Params) : Obj := ⟨(.type "tuple"), none, (.seq (List.toArray [(.str (Str.ofString "self") 495), (.str (Str.ofString "la") 496), (.str (Str.ofString "lb") 497), (.str (Str.ofString "queue") 498), (.str (Str.ofString "matching_blocks") 499), (.str (Str.ofString "alo") 500), (.str (Str.ofString "ahi") 501), (.str (Str.ofString "blo") 502), (.str (Str.ofString "bhi") 503), (.str (Str.ofString "i") 504), (.str (Str.ofString "j") 505), (.str (Str.ofString "k") 506), (.str (Str.ofString "x") 507), (.str (Str.ofString "i1") 508), (.str (Str.ofString "j1") 509), (.str (Str.ofString "k1") 510), (.str (Str.ofString "non_adjacent") 511), (.str (Str.ofString "i2") 512), (.str (Str.ofString "j2") 513), (.str (Str.ofString "k2") 514)]) 0), List.toArray []⟩
noncomputable def o200 (P : Params) : Obj := ⟨(.type "tuple"), none, (.seq (List.toArray []) 0), List.toArray []⟩
noncomputable def o201B (B : List Stmt) (P : Params) : Obj := ⟨.none, none, (.func { name := (Str.ofString "get_matching_blocks"), qualname := (Str.ofString "SequenceMatcher.get_matching_blocks"), params := argsN (stN (bodyN (stN B 5)) 7), body := .stmts (bodyN (stN (bodyN (stN B 5)) 7)), scope := scopeN (stN (bodyN (stN B 5)) 7), globals := 0, closure := [], defaults := .none, kwdefaults := .none, doc := .none, pyModule := .none, annotations := none, code := .none, closureTuple := .none, builtins := 0 }), List.toArray []⟩
noncomputable def o201 (P : Params) : Obj := o201B pwBody P
noncomputable def o202 (P : Params) : Obj := ⟨(.type "code"), none, (.fields (List.toArray [(.str (Str.ofString "get_matching_blocks") 492), (.str (Str.ofString "SequenceMatcher.get_matching_blocks") 493), (.str (Str.ofString "/claim/cut.py") 494), (.int 335 0), (.int 1 0), (.int 0 0), (.int 0 0), (.int 3 0), (.ref 197), (.bool true), (.int 181 0), (.ref 198), .none, (.ref 199), (.ref 200), (.ref 201), (.int 515 0), (.int 335 0), (.str (Str.ofString "/claim/cut.py") 516)])), List.toArray []⟩
noncomputable def fd203B (B : List Stmt) : FuncData := { name := (Str.ofString "get_matching_blocks"), qualname := (Str.ofString "SequenceMatcher.get_matching_blocks"), params := argsN (stN (bodyN (stN B 5)) 7), body := .stmts (bodyN (stN (bodyN (stN B 5)) 7)), scope := scopeN (stN (bodyN (stN B 5)) 7), globals := 3, closure := [], defaults := .none, kwdefaults := .none, doc := (.str (docN (bodyN (stN (bodyN (stN B 5)) 7))) 517), pyModule := (.str (Str.ofString "cpy313.difflib") 194), annotations := none, code := (.ref 202), closureTuple := .none, builtins := 0 }
noncomputable def fd203 : FuncData := fd203B pwBody
noncomputable def at_SequenceMatcher_get_matching_blocks : Addr := 203
noncomputable def fdOf_SequenceMatcher_get_matching_blocks : FuncData := fd203
noncomputable def o203B (B : List Stmt) (P : Params) : Obj := ⟨(.type "function"), none, (.func (fd203B B)), List.toArray []⟩
noncomputable def o203 (P : Params) : Obj := o203B pwBody P
noncomputable def obOf_SequenceMatcher_get_matching_blocks (P : Params) : Obj := o203 P
noncomputable def o204 (P : Params) : Obj := ⟨(.type "tuple"), none, (.seq (List.toArray []) 0), List.toArray []⟩
noncomputable def o205 (P : Params) : Obj := ⟨.none, none, (.fields (List.toArray [])), List.toArray []⟩
noncomputable def o206 (P : Params) : Obj := ⟨(.type "tuple"), none, (.seq (List.toArray [(.str (Str.ofString "self") 522)]) 0), List.toArray []⟩
noncomputable def o207 (P : Params) : Obj := ⟨(.type "tuple"), none, (.seq (List.toArray []) 0), List.toArray []⟩
noncomputable def o208B (B : List Stmt) (P : Params) : Obj := ⟨.none, none, (.func { name := (Str.ofString "get_opcodes"), qualname := (Str.ofString "SequenceMatcher.get_opcodes"), params := argsN (stN (bodyN (stN B 5)) 8), body := .stmts (bodyN (stN (bodyN (stN B 5)) 8)), scope := scopeN (stN (bodyN (stN B 5)) 8), globals := 0, closure := [], defaults := .none, kwdefaults := .none, doc := .none, pyModule := .none, annotations := none, code := .none, closureTuple := .none, builtins := 0 }), List.toArray []⟩
noncomputable def o208 (P : Params) : Obj := o208B pwBody P
noncomputable def o209 (P : Params) : Obj := ⟨(.type "code"), none, (.fields (List.toArray [(.str (Str.ofString "get_opcodes") 519), (.str (Str.ofString "SequenceMatcher.get_opcodes") 520), (.str (Str.ofString "/claim/cut.py") 521), (.int 383 0), (.int 1 0), (.int 0 0), (.int 0 0), (.int 3 0), (.ref 204), (.bool true), (.int 181 0), (.ref 205), .none, (.ref 206), (.ref 207), (.ref 208), (.int 523 0), (.int 383 0), (.str (Str.ofString "/claim/cut.py") 524)])), List.toArray []⟩
noncomputable def fd210B (B : List Stmt) : FuncData := { name := (Str.ofString "get_opcodes"), qualname := (Str.ofString "SequenceMatcher.get_opcodes"), params := argsN (stN (bodyN (stN B 5)) 8), body := .stmts (bodyN (stN (bodyN (stN B 5)) 8)), scope := scopeN (stN (bodyN (stN B 5)) 8), globals := 3, closure := [], defaults := .none, kwdefaults := .none, doc := .none, pyModule := (.str (Str.ofString "cpy313.difflib") 194), annotations := none, code := (.ref 209), closureTuple := .none, builtins := 0 }
noncomputable def fd210 : FuncData := fd210B pwBody
noncomputable def at_SequenceMatcher_get_opcodes : Addr := 210
noncomputable def fdOf_SequenceMatcher_get_opcodes : FuncData := fd210
noncomputable def o210B (B : List Stmt) (P : Params) : Obj := ⟨(.type "function"), none, (.func (fd210B B)), List.toArray []⟩
noncomputable def o210 (P : Params) : Obj := o210B pwBody P
noncomputable def obOf_SequenceMatcher_get_opcodes (P : Params) : Obj := o210 P
noncomputable def o211 (P : Params) : Obj := ⟨(.type "tuple"), none, (.seq (List.toArray [(.int 3 526)]) 0), List.toArray []⟩
noncomputable def o212 (P : Params) : Obj := ⟨(.type "tuple"), none, (.seq (List.toArray []) 0), List.toArray []⟩
noncomputable def o213 (P : Params) : Obj := ⟨.none, none, (.fields (List.toArray [])), List.toArray []⟩
noncomputable def o214 (P : Params) : Obj := ⟨(.type "tuple"), none, (.seq (List.toArray [(.str (Str.ofString "self") 530), (.str (Str.ofString "n") 531)]) 0), List.toArray []⟩
noncomputable def o215 (P : Params) : Obj := ⟨(.type "tuple"), none, (.seq (List.toArray []) 0), List.toArray []⟩
noncomputable def o216B (B : List Stmt) (P : Params) : Obj := ⟨.none, none, (.func { name := (Str.ofString "get_grouped_opcodes"), qualname := (Str.ofString "SequenceMatcher.get_grouped_opcodes"), params := argsN (stN (bodyN (stN B 5)) 9), body := .stmts (bodyN (stN (bodyN (stN B 5)) 9)), scope := scopeN (stN (bodyN (stN B 5)) 9), globals := 0, closure := [], defaults := .none, kwdefaults := .none, doc := .none, pyModule := .none, annotations := none, code := .none, closureTuple := .none, builtins := 0 }), List.toArray []⟩
noncomputable def o216 (P : Params) : Obj := o216B pwBody P
noncomputable def o217 (P : Params) : Obj := ⟨(.type "code"), none, (.fields (List.toArray [(.str (Str.ofString "get_grouped_opcodes") 527), (.str (Str.ofString "SequenceMatcher.get_grouped_opcodes") 528), (.str (Str.ofString "/claim/cut.py") 529), (.int 386 0), (.int 2 0), (.int 0 0), (.int 0 0), (.int 3 0), (.ref 212), (.bool true), (.int 181 0), (.ref 213), .none, (.ref 214), (.ref 215), (.ref 216), (.int 532 0), (.int 386 0), (.str (Str.ofString "/claim/cut.py") 533)])), List.toArray []⟩
noncomputable def fd218B (B : List Stmt) : FuncData := { name := (Str.ofString "get_grouped_opcodes"), qualname := (Str.ofString "SequenceMatcher.get_grouped_opcodes"), params := argsN (stN (bodyN (stN B 5)) 9), body := .stmts (bodyN (stN (bodyN (stN B 5)) 9)), scope := scopeN (stN (bodyN (stN B 5)) 9), globals := 3, closure := [], defaults := (.ref 211), kwdefaults := .none, doc := .none, pyModule := (.str (Str.ofString "cpy313.difflib") 194), annotations := none, code := (.ref 217), closureTuple := .none, builtins := 0 }
noncomputable def fd218 : FuncData := fd218B pwBody
noncomputable def at_SequenceMatcher_get_grouped_opcodes : Addr := 218
noncomputable def fdOf_SequenceMatcher_get_grouped_opcodes : FuncData := fd218
noncomputable def o218B (B : List Stmt) (P : Params) : Obj := ⟨(.type "function"), none, (.func (fd218B B)), List.toArray []⟩
noncomputable def o218 (P : Params) : Obj := o218B pwBody P
noncomputable def obOf_SequenceMatcher_get_grouped_opcodes (P : Params) : Obj := o218 P
noncomputable def o219 (P : Params) : Obj := ⟨(.type "tuple"), none, (.seq (List.toArray []) 0), List.toArray []⟩
noncomputable def o220 (P : Params) : Obj := ⟨.none, none, (.fields (List.toArray [])), List.toArray []⟩
noncomputable def o221 (P : Params) : Obj := ⟨(.type "tuple"), none, (.seq (List.toArray [(.str (Str.ofString "self") 538), (.str (Str.ofString "matches") 539)]) 0), List.toArray []⟩
noncomputable def o222 (P : Params) : Obj := ⟨(.type "tuple"), none, (.seq (List.toArray []) 0), List.toArray []⟩
noncomputable def o223B (B : List Stmt) (P : Params) : Obj := ⟨.none, none, (.func { name := (Str.ofString "ratio"), qualname := (Str.ofString "SequenceMatcher.ratio"), params := argsN (stN (bodyN (stN B 5)) 10), body := .stmts (bodyN (stN (bodyN (stN B 5)) 10)), scope := scopeN (stN (bodyN (stN B 5)) 10), globals := 0, closure := [], defaults := .none, kwdefaults := .none, doc := .none, pyModule := .none, annotations := none, code := .none, closureTuple := .none, builtins := 0 }), List.toArray []⟩
noncomputable def o223 (P : Params) : Obj := o223B pwBody P
noncomputable def o224 (P : Params) : Obj := ⟨(.type "code"), none, (.fields (List.toArray [(.str (Str.ofString "ratio") 535), (.str (Str.ofString "SequenceMatcher.ratio") 536), (.str (Str.ofString "/claim/cut.py") 537), (.int 389 0), (.int 1 0), (.int 0 0), (.int 0 0), (.int 3 0), (.ref 219), (.bool true), (.int 181 0), (.ref 220), .none, (.ref 221), (.ref 222), (.ref 223), (.int 540 0), (.int 389 0), (.str (Str.ofString "/claim/cut.py") 541)])), List.toArray []⟩
noncomputable def fd225B (B : List Stmt) : FuncData := { name := (Str.ofString "ratio"), qualname := (Str.ofString "SequenceMatcher.ratio"), params := argsN (stN (bodyN (stN B 5)) 10), body := .stmts (bodyN (stN (bodyN (stN B 5)) 10)), scope := scopeN (stN (bodyN (stN B 5)) 10), globals := 3, closure := [], defaults := .none, kwdefaults := .none, doc := (.str (docN (bodyN (stN (bodyN (stN B 5)) 10))) 542), pyModule := (.str (Str.ofString "cpy313.difflib") 194), annotations := none, code := (.ref 224), closureTuple := .none, builtins := 0 }
noncomputable def fd225 : FuncData := fd225B pwBody
noncomputable def at_SequenceMatcher_ratio : Addr := 225
noncomputable def fdOf_SequenceMatcher_ratio : FuncData := fd225
noncomputable def o225B (B : List Stmt) (P : Params) : Obj := ⟨(.type "function"), none, (.func (fd225B B)), List.toArray []⟩
noncomputable def o225 (P : Params) : Obj := o225B pwBody P
noncomputable def obOf_SequenceMatcher_ratio (P : Params) : Obj := o225 P
noncomputable def o226 (P : Params) : Obj := ⟨(.type "tuple"), none, (.seq (List.toArray []) 0), List.toArray []⟩
noncomputable def o227 (P : Params) : Obj := ⟨.none, none, (.fields (List.toArray [])), List.toArray []⟩
noncomputable def o228 (P : Params) : Obj := ⟨(.type "tuple"), none, (.seq (List.toArray [(.str (Str.ofString "self") 547)]) 0), List.toArray []⟩
noncomputable def o229 (P : Params) : Obj := ⟨(.type "tuple"), none, (.seq (List.toArray []) 0), List.toArray []⟩
noncomputable def o230B (B : List Stmt) (P : Params) : Obj := ⟨.none, none, (.func { name := (Str.ofString "quick_ratio"), qualname := (Str.ofString "SequenceMatcher.quick_ratio"), params := argsN (stN (bodyN (stN B 5)) 11), body := .stmts (bodyN (stN (bodyN (stN B 5)) 11)), scope := scopeN (stN (bodyN (stN B 5)) 11), globals := 0, closure := [], defaults := .none, kwdefaults := .none, doc := .none, pyModule := .none, annotations := none, code := .none, closureTuple := .none, builtins := 0 }), List.toArray []⟩
noncomputable def o230 (P : Params) : Obj := o230B pwBody P
noncomputable def o231 (P : Params) : Obj := ⟨(.type "code"), none, (.fields (List.toArray [(.str (Str.ofString "quick_ratio") 544), (.str (Str.ofString "SequenceMatcher.quick_ratio") 545), (.str (Str.ofString "/claim/cut.py") 546), (.int 413 0), (.int 1 0), (.int 0 0), (.int 0 0), (.int 3 0), (.ref 226), (.bool true), (.int 181 0), (.ref 227), .none, (.ref 228), (.ref 229), (.ref 230), (.int 548 0), (.int 413 0), (.str (Str.ofString "/claim/cut.py") 549)])), List.toArray []⟩
noncomputable def fd232B (B : List Stmt) : FuncData := { name := (Str.ofString "quick_ratio"), qualname := (Str.ofString "SequenceMatcher.quick_ratio"), params := argsN (stN (bodyN (stN B 5)) 11), body := .stmts (bodyN (stN (bodyN (stN B 5)) 11)), scope := scopeN (stN (bodyN (stN B 5)) 11), globals := 3, closure := [], defaults := .none, kwdefaults := .none, doc := .none, pyModule := (.str (Str.ofString "cpy313.difflib") 194), annotations := none, code := (.ref 231), closureTuple := .none, builtins := 0 }
noncomputable def fd232 : FuncData := fd232B pwBody
noncomputable def at_SequenceMatcher_quick_ratio : Addr := 232
noncomputable def fdOf_SequenceMatcher_quick_ratio : FuncData := fd232
noncomputable def o232B (B : List Stmt) (P : Params) : Obj := ⟨(.type "function"), none, (.func (fd232B B)), List.toArray []⟩
noncomputable def o232 (P : Params) : Obj := o232B pwBody P
noncomputable def obOf_SequenceMatcher_quick_ratio (P : Params) : Obj := o232 P
noncomputable def o233 (P : Params) : Obj := ⟨(.type "tuple"), none, (.seq (List.toArray []) 0), List.toArray []⟩
noncomputable def o234 (P : Params) : Obj := ⟨.none, none, (.fields (List.toArray [])), List.toArray []⟩
noncomputable def o235 (P : Params) : Obj := ⟨(.type "tuple"), none, (.seq (List.toArray [(.str (Str.ofString "self") 554)]) 0), List.toArray []⟩
noncomputable def o236 (P : Params) : Obj := ⟨(.type "tuple"), none, (.seq (List.toArray []) 0), List.toArray []⟩
noncomputable def o237B (B : List Stmt) (P : Params) : Obj := ⟨.none, none, (.func { name := (Str.ofString "real_quick_ratio"), qualname := (Str.ofString "SequenceMatcher.real_quick_ratio"), params := argsN (stN (bodyN (stN B 5)) 12), body := .stmts (bodyN (stN (bodyN (stN B 5)) 12)), scope := scopeN (stN (bodyN (stN B 5)) 12), globals := 0, closure := [], defaults := .none, kwdefaults := .none, doc := .none, pyModule := .none, annotations := none, code := .none, closureTuple := .none, builtins := 0 }), List.toArray []⟩
noncomputable def o237 (P : Params) : Obj := o237B pwBody P
noncomputable def o238 (P : Params) : Obj := ⟨(.type "code"), none, (.fields (List.toArray [(.str (Str.ofString "real_quick_ratio") 551), (.str (Str.ofString "SequenceMatcher.real_quick_ratio") 552), (.str (Str.ofString "/claim/cut.py") 553), (.int 416 0), (.int 1 0), (.int 0 0), (.int 0 0), (.int 3 0), (.ref 233), (.bool true), (.int 181 0), (.ref 234), .none, (.ref 235), (.ref 236), (.ref 237), (.int 555 0), (.int 416 0), (.str (Str.ofString "/claim/cut.py") 556)])), List.toArray []⟩
noncomputable def fd239B (B : List Stmt) : FuncData := { name := (Str.ofString "real_quick_ratio"), qualname := (Str.ofString "SequenceMatcher.real_quick_ratio"), params := argsN (stN (bodyN (stN B 5)) 12), body := .stmts (bodyN (stN (bodyN (stN B 5)) 12)), scope := scopeN (stN (bodyN (stN B 5)) 12), globals := 3, closure := [], defaults := .none, kwdefaults := .none, doc := .none, pyModule := (.str (Str.ofString "cpy313.difflib") 194), annotations := none, code := (.ref 238), closureTuple := .none, builtins := 0 }
noncomputable def fd239 : FuncData := fd239B pwBody
noncomputable def at_SequenceMatcher_real_quick_ratio : Addr := 239
noncomputable def fdOf_SequenceMatcher_real_quick_ratio : FuncData := fd239
noncomputable def o239B (B : List Stmt) (P : Params) : Obj := ⟨(.type "function"), none, (.func (fd239B B)), List.toArray []⟩
noncomputable def o239 (P : Params) : Obj := o239B pwBody P
noncomputable def obOf_SequenceMatcher_real_quick_ratio (P : Params) : Obj := o239 P
noncomputable def o240 (P : Params) : Obj := ⟨(.type "tuple"), none, (.seq (List.toArray [(.str (Str.ofString "a") 558), (.str (Str.ofString "autojunk") 559), (.str (Str.ofString "b") 560), (.str (Str.ofString "b2j") 561), (.str (Str.ofString "bjunk") 562), (.str (Str.ofString "bpopular") 563), (.str (Str.ofString "fullbcount") 564), (.str (Str.ofString "isjunk") 565), (.str (Str.ofString "matching_blocks") 566), (.str (Str.ofString "opcodes") 567)]) 0), List.toArray []⟩
noncomputable def o241B (B : List Stmt) (P : Params) : Obj := ⟨(.type "dict"), none, (.dict (List.toArray [⟨PyData.keyHash P (Str.ofString "__module__"), (.str (Str.ofString "__module__") 396), (.str (Str.ofString "cpy313.difflib") 194)⟩, ⟨PyData.keyHash P (Str.ofString "__firstlineno__"), (.str (Str.ofString "__firstlineno__") 400), (.int 70 399)⟩, ⟨PyData.keyHash P (Str.ofString "__doc__"), (.str (Str.ofString "__doc__") 402), (.str (docN (bodyN (stN B 5))) 401)⟩, ⟨PyData.keyHash P (Str.ofString "__init__"), (.str (Str.ofString "__init__") 417), (.ref 160)⟩, ⟨PyData.keyHash P (Str.ofString "set_seqs"), (.str (Str.ofString "set_seqs") 427), (.ref 167)⟩, ⟨PyData.keyHash P (Str.ofString "set_seq1"), (.str (Str.ofString "set_seq1") 436), (.ref 174)⟩, ⟨PyData.keyHash P (Str.ofString "set_seq2"), (.str (Str.ofString "set_seq2") 445), (.ref 181)⟩, ⟨PyData.keyHash P (Str.ofString "_SequenceMatcher__chain_b"), (.str (Str.ofString "_SequenceMatcher__chain_b") 463), (.ref 188)⟩, ⟨PyData.keyHash P (Str.ofString "find_longest_match"), (.str (Str.ofString "find_longest_match") 491), (.ref 196)⟩, ⟨PyData.keyHash P (Str.ofString "get_matching_blocks"), (.str (Str.ofString "get_matching_blocks") 518), (.ref 203)⟩, ⟨PyData.keyHash P (Str.ofString "get_opcodes"), (.str (Str.ofString "get_opcodes") 525), (.ref 210)⟩, ⟨PyData.keyHash P (Str.ofString "get_grouped_opcodes"), (.str (Str.ofString "get_grouped_opcodes") 534), (.ref 218)⟩, ⟨PyData.keyHash P (Str.ofString "ratio"), (.str (Str.ofString "ratio") 543), (.ref 225)⟩, ⟨PyData.keyHash P (Str.ofString "quick_ratio"), (.str (Str.ofString "quick_ratio") 550), (.ref 232)⟩, ⟨PyData.keyHash P (Str.ofString "real_quick_ratio"), (.str (Str.ofString "real_quick_ratio") 557), (.ref 239)⟩, ⟨PyData.keyHash P (Str.ofString "__static_attributes__"), (.str (Str.ofString "__static_attributes__") 568), (.ref 240)⟩, ⟨PyData.keyHash P (Str.ofString "__dict__"), (.str (Str.ofString "__dict__") 570), (.ref 243)⟩, ⟨PyData.keyHash P (Str.ofString "__weakref__"), (.str (Str.ofString "__weakref__") 572), (.ref 244)⟩]) 3), List.toArray []⟩
noncomputable def o241 (P : Params) : Obj := o241B pwBody P
noncomputable def at_SequenceMatcher : Addr := 242
noncomputable def o242 (P : Params) : Obj := ⟨(.type "type"), none, (.cls { name := (Str.ofString "SequenceMatcher"), bases := [(.type "object")], mro := [(.ref 242), (.type "object")], ns := 241, qualname := (Str.ofString "SequenceMatcher"), hasDict := true, slotNames := [], subclasses := [], abstract := false, collection := none, hasDel := false }), List.toArray [none, none, (some (.str (Str.ofString "SequenceMatcher") 389)), (some (.str (Str.ofString "SequenceMatcher") 397)), (some (.builtin "object.__new__")), (some (.bool true))]⟩
noncomputable def o243 (P : Params) : Obj := ⟨(.type "getset_descriptor"), none, (.fields (List.toArray [(.str (Str.ofString "__dict__") 569), (.ref 242), (.builtin "function.__dict__"), (.builtin "function.__dict__#set")])), List.toArray []⟩
noncomputable def o244 (P : Params) : Obj := ⟨(.type "getset_descriptor"), none, (.fields (List.toArray [(.str (Str.ofString "__weakref__") 571), (.ref 242), (.builtin "ExceptionGroup.__weakref__"), .none])), List.toArray []⟩
noncomputable def o245 (P : Params) : Obj := ⟨(.type "super"), none, (.fields (List.toArray [(.ref 242), (.ref 242), (.ref 242)])), List.toArray []⟩
noncomputable def o246 (P : Params) : Obj := ⟨(.type "builtin_function_or_method"), none, (.fields (List.toArray [(.builtin "object.__init_subclass__"), (.ref 242)])), List.toArray []⟩
noncomputable def o247 (P : Params) : Obj := ⟨(.type "tuple"), none, (.seq (List.toArray []) 0), List.toArray []⟩
noncomputable def o248 (P : Params) : Obj := ⟨.none, none, (.fields (List.toArray [])), List.toArray []⟩
noncomputable def o249B (B : List Stmt) (P : Params) : Obj := ⟨.none, none, (.func { name := (Str.ofString "_law_spread"), qualname := (Str.ofString "_law_spread"), params := argsN (stN B 7), body := .stmts (bodyN (stN B 7)), scope := scopeN (stN B 7), globals := 0, closure := [], defaults := .none, kwdefaults := .none, doc := .none, pyModule := .none, annotations := none, code := .none, closureTuple := .none, builtins := 0 }), List.toArray []⟩
noncomputable def o249 (P : Params) : Obj := o249B pwBody P
noncomputable def o250 (P : Params) : Obj := ⟨(.type "code"), none, (.fields (List.toArray [(.str (Str.ofString "_law_spread") 577), (.str (Str.ofString "_law_spread") 578), (.str (Str.ofString "/claim/cut.py") 579), (.int 419 0), (.int 3 0), (.int 0 0), (.int 0 0), (.int 3 0), (.ref 247), (.bool true), (.int 181 0), (.ref 248), .none, .none, .none, (.ref 249), (.int 580 0), (.int 419 0), (.str (Str.ofString "/claim/cut.py") 581)])), List.toArray []⟩
noncomputable def fd251B (B : List Stmt) : FuncData := { name := (Str.ofString "_law_spread"), qualname := (Str.ofString "_law_spread"), params := argsN (stN B 7), body := .stmts (bodyN (stN B 7)), scope := scopeN (stN B 7), globals := 3, closure := [], defaults := .none, kwdefaults := .none, doc := .none, pyModule := (.str (Str.ofString "law_dm0052_12") 575), annotations := none, code := (.ref 250), closureTuple := .none, builtins := 0 }
noncomputable def fd251 : FuncData := fd251B pwBody
noncomputable def at_law_spread : Addr := 251
noncomputable def fdOf_law_spread : FuncData := fd251
noncomputable def o251B (B : List Stmt) (P : Params) : Obj := ⟨(.type "function"), none, (.func (fd251B B)), List.toArray []⟩
noncomputable def o251 (P : Params) : Obj := o251B pwBody P
noncomputable def obOf_law_spread (P : Params) : Obj := o251 P
noncomputable def o252 (P : Params) : Obj := ⟨(.type "tuple"), none, (.seq (List.toArray []) 0), List.toArray []⟩
noncomputable def o253 (P : Params) : Obj := ⟨.none, none, (.fields (List.toArray [])), List.toArray []⟩
noncomputable def o254B (B : List Stmt) (P : Params) : Obj := ⟨.none, none, (.func { name := (Str.ofString "_law_pass"), qualname := (Str.ofString "_law_pass"), params := argsN (stN B 8), body := .stmts (bodyN (stN B 8)), scope := scopeN (stN B 8), globals := 0, closure := [], defaults := .none, kwdefaults := .none, doc := .none, pyModule := .none, annotations := none, code := .none, closureTuple := .none, builtins := 0 }), List.toArray []⟩
noncomputable def o254 (P : Params) : Obj := o254B pwBody P
noncomputable def o255 (P : Params) : Obj := ⟨(.type "code"), none, (.fields (List.toArray [(.str (Str.ofString "_law_pass") 583), (.str (Str.ofString "_law_pass") 584), (.str (Str.ofString "/claim/cut.py") 585), (.int 421 0), (.int 2 0), (.int 0 0), (.int 0 0), (.int 3 0), (.ref 252), (.bool true), (.int 181 0), (.ref 253), .none, .none, .none, (.ref 254), (.int 586 0), (.int 421 0), (.str (Str.ofString "/claim/cut.py") 587)])), List.toArray []⟩
noncomputable def fd256B (B : List Stmt) : FuncData := { name := (Str.ofString "_law_pass"), qualname := (Str.ofString "_law_pass"), params := argsN (stN B 8), body := .stmts (bodyN (stN B 8)), scope := scopeN (stN B 8), globals := 3, closure := [], defaults := .none, kwdefaults := .none, doc := .none, pyModule := (.str (Str.ofString "law_dm0052_12") 575), annotations := none, code := (.ref 255), closureTuple := .none, builtins := 0 }
noncomputable def fd256 : FuncData := fd256B pwBody
noncomputable def at_law_pass : Addr := 256
noncomputable def fdOf_law_pass : FuncData := fd256
noncomputable def o256B (B : List Stmt) (P : Params) : Obj := ⟨(.type "function"), none, (.func (fd256B B)), List.toArray []⟩
noncomputable def o256 (P : Params) : Obj := o256B pwBody P
noncomputable def obOf_law_pass (P : Params) : Obj := o256 P
noncomputable def o257 (P : Params) : Obj := ⟨(.type "tuple"), none, (.seq (List.toArray []) 0), List.toArray []⟩
noncomputable def o258 (P : Params) : Obj := ⟨.none, none, (.fields (List.toArray [])), List.toArray []⟩
noncomputable def o259B (B : List Stmt) (P : Params) : Obj := ⟨.none, none, (.func { name := (Str.ofString "_law_found"), qualname := (Str.ofString "_law_found"), params := argsN (stN B 9), body := .stmts (bodyN (stN B 9)), scope := scopeN (stN B 9), globals := 0, closure := [], defaults := .none, kwdefaults := .none, doc := .none, pyModule := .none, annotations := none, code := .none, closureTuple := .none, builtins := 0 }), List.toArray []⟩
noncomputable def o259 (P : Params) : Obj := o259B pwBody P
noncomputable def o260 (P : Params) : Obj := ⟨(.type "code"), none, (.fields (List.toArray [(.str (Str.ofString "_law_found") 589), (.str (Str.ofString "_law_found") 590), (.str (Str.ofString "/claim/cut.py") 591), (.int 430 0), (.int 5 0), (.int 0 0), (.int 0 0), (.int 3 0), (.ref 257), (.bool true), (.int 181 0), (.ref 258), .none, .none, .none, (.ref 259), (.int 592 0), (.int 430 0), (.str (Str.ofString "/claim/cut.py") 593)])), List.toArray []⟩
noncomputable def fd261B (B : List Stmt) : FuncData := { name := (Str.ofString "_law_found"), qualname := (Str.ofString "_law_found"), params := argsN (stN B 9), body := .stmts (bodyN (stN B 9)), scope := scopeN (stN B 9), globals := 3, closure := [], defaults := .none, kwdefaults := .none, doc := .none, pyModule := (.str (Str.ofString "law_dm0052_12") 575), annotations := none, code := (.ref 260), closureTuple := .none, builtins := 0 }
noncomputable def fd261 : FuncData := fd261B pwBody
noncomputable def at_law_found : Addr := 261
noncomputable def fdOf_law_found : FuncData := fd261
noncomputable def o261B (B : List Stmt) (P : Params) : Obj := ⟨(.type "function"), none, (.func (fd261B B)), List.toArray []⟩
noncomputable def o261 (P : Params) : Obj := o261B pwBody P
noncomputable def obOf_law_found (P : Params) : Obj := o261 P
noncomputable def o262 (P : Params) : Obj := ⟨(.type "tuple"), none, (.seq (List.toArray []) 0), List.toArray []⟩
noncomputable def o263 (P : Params) : Obj := ⟨.none, none, (.fields (List.toArray [])), List.toArray []⟩
noncomputable def o264B (B : List Stmt) (P : Params) : Obj := ⟨.none, none, (.func { name := (Str.ofString "law"), qualname := (Str.ofString "law"), params := argsN (stN B 10), body := .stmts (bodyN (stN B 10)), scope := scopeN (stN B 10), globals := 0, closure := [], defaults := .none, kwdefaults := .none, doc := .none, pyModule := .none, annotations := none, code := .none, closureTuple := .none, builtins := 0 }), List.toArray []⟩
noncomputable def o264 (P : Params) : Obj := o264B pwBody P
noncomputable def o265 (P : Params) : Obj := ⟨(.type "code"), none, (.fields (List.toArray [(.str (Str.ofString "law") 595), (.str (Str.ofString "law") 596), (.str (Str.ofString "/claim/cut.py") 597), (.int 433 0), (.int 1 0), (.int 0 0), (.int 0 0), (.int 3 0), (.ref 262), (.bool true), (.int 181 0), (.ref 263), .none, .none, .none, (.ref 264), (.int 598 0), (.int 433 0), (.str (Str.ofString "/claim/cut.py") 599)])), List.toArray []⟩
noncomputable def fd266B (B : List Stmt) : FuncData := { name := (Str.ofString "law"), qualname := (Str.ofString "law"), params := argsN (stN B 10), body := .stmts (bodyN (stN B 10)), scope := scopeN (stN B 10), globals := 3, closure := [], defaults := .none, kwdefaults := .none, doc := .none, pyModule := (.str (Str.ofString "law_dm0052_12") 575), annotations := none, code := (.ref 265), closureTuple := .none, builtins := 0 }
noncomputable def fd266 : FuncData := fd266B pwBody
noncomputable def at_law : Addr := 266
noncomputable def fdOf_law : FuncData := fd266
noncomputable def o266B (B : List Stmt) (P : Params) : Obj := ⟨(.type "function"), none, (.func (fd266B B)), List.toArray []⟩
noncomputable def o266 (P : Params) : Obj := o266B pwBody P
noncomputable def obOf_law (P : Params) : Obj := o266 P
noncomputable def p12 (P : Params) : Obj := ⟨.none, none, (.fields (List.toArray [])), List.toArray []⟩
noncomputable def heapPre (P : Params) : Heap := ⟨Array.mk [PySem.W.boot_o_0 P, PySem.W.boot_o_1 P, PySem.W.boot_o_2 P, PySem.W.boot_o_3 P, PySem.W.boot_o_4 P, PySem.W.boot_o_5 P, PySem.W.boot_o_6 P, PySem.W.boot_o_7 P, PySem.W.boot_o_8 P, PySem.W.boot_o_9 P, PySem.W.boot_o_10 P, o11 P, p12 P, o13 P, o14 P], (boot_heap P).life⟩
noncomputable def treePre (P : Params) : BT := (.node (PySem.W.boot_o_0 P) (.node (PySem.W.boot_o_1 P) (.node (PySem.W.boot_o_3 P) (.node (PySem.W.boot_o_7 P) .nil .nil) (.node (o11 P) .nil .nil)) (.node (PySem.W.boot_o_5 P) (.node (PySem.W.boot_o_9 P) .nil .nil) (.node (o13 P) .nil .nil))) (.node (PySem.W.boot_o_2 P) (.node (PySem.W.boot_o_4 P) (.node (PySem.W.boot_o_8 P) .nil .nil) (.node (p12 P) .nil .nil)) (.node (PySem.W.boot_o_6 P) (.node (PySem.W.boot_o_10 P) .nil .nil) (.node (o14 P) .nil .nil))))
noncomputable def hf22B (B : List Stmt) (P : Params) : List Obj := (o264B B) P :: o265 P :: (o266B B) P :: []
noncomputable def hf22 (P : Params) : List Obj := hf22B pwBody P
noncomputable def hf21B (B : List Stmt) (P : Params) : List Obj := o252 P :: o253 P :: (o254B B) P :: o255 P :: (o256B B) P :: o257 P :: o258 P :: (o259B B) P :: o260 P :: (o261B B) P :: o262 P :: o263 P :: (hf22B B) P
noncomputable def hf21 (P : Params) : List Obj := hf21B pwBody P
noncomputable def hf20B (B : List Stmt) (P : Params) : List Obj := o240 P :: (o241B B) P :: o242 P :: o243 P :: o244 P :: o245 P :: o246 P :: o247 P :: o248 P :: (o249B B) P :: o250 P :: (o251B B) P :: (hf21B B) P
noncomputable def hf20 (P : Params) : List Obj := hf20B pwBody P
noncomputable def hf19B (B : List Stmt) (P : Params) : List Obj := o228 P :: o229 P :: (o230B B) P :: o231 P :: (o232B B) P :: o233 P :: o234 P :: o235 P :: o236 P :: (o237B B) P :: o238 P :: (o239B B) P :: (hf20B B) P
noncomputable def hf19 (P : Params) : List Obj := hf19B pwBody P
noncomputable def hf18B (B : List Stmt) (P : Params) : List Obj := (o216B B) P :: o217 P :: (o218B B) P :: o219 P :: o220 P :: o221 P :: o222 P :: (o223B B) P :: o224 P :: (o225B B) P :: o226 P :: o227 P :: (hf19B B) P
noncomputable def hf18 (P : Params) : List Obj := hf18B pwBody P
noncomputable def hf17B (B : List Stmt) (P : Params) : List Obj := o204 P :: o205 P :: o206 P :: o207 P :: (o208B B) P :: o209 P :: (o210B B) P :: o211 P :: o212 P :: o213 P :: o214 P :: o215 P :: (hf18B B) P
noncomputable def hf17 (P : Params) : List Obj := hf17B pwBody P
noncomputable def hf16B (B : List Stmt) (P : Params) : List Obj := o192 P :: o193 P :: (o194B B) P :: o195 P :: (o196B B) P :: o197 P :: o198 P :: o199 P :: o200 P :: (o201B B) P :: o202 P :: (o203B B) P :: (hf17B B) P
noncomputable def hf16 (P : Params) : List Obj := hf16B pwBody P
noncomputable def hf15B (B : List Stmt) (P : Params) : List Obj := o180 P :: (o181B B) P :: o182 P :: o183 P :: o184 P :: o185 P :: (o186B B) P :: o187 P :: (o188B B) P :: o189 P :: o190 P :: o191 P :: (hf16B B) P
noncomputable def hf15 (P : Params) : List Obj := hf15B pwBody P
noncomputable def hf14B (B : List Stmt) (P : Params) : List Obj := o168 P :: o169 P :: o170 P :: o171 P :: (o172B B) P :: o173 P :: (o174B B) P :: o175 P :: o176 P :: o177 P :: o178 P :: (o179B B) P :: (hf15B B) P
noncomputable def hf14 (P : Params) : List Obj := hf14B pwBody P
noncomputable def hf13B (B : List Stmt) (P : Params) : List Obj := o156 P :: o157 P :: (o158B B) P :: o159 P :: (o160B B) P :: o161 P :: o162 P :: o163 P :: o164 P :: (o165B B) P :: o166 P :: (o167B B) P :: (hf14B B) P
noncomputable def hf13 (P : Params) : List Obj := hf13B pwBody P
noncomputable def hf12B (B : List Stmt) (P : Params) : List Obj := o144 P :: (o145B B) P :: o146 P :: o147 P :: (o148B B) P :: o149 P :: o150 P :: o151 P :: o152 P :: o153 P :: o154 P :: o155 P :: (hf13B B) P
noncomputable def hf12 (P : Params) : List Obj := hf12B pwBody P
noncomputable def hf11B (B : List Stmt) (P : Params) : List Obj := o132 P :: o133 P :: o134 P :: o135 P :: o136 P :: o137 P :: o138 P :: o139 P :: o140 P :: o141 P :: o142 P :: (o143B B) P :: (hf12B B) P
noncomputable def hf11 (P : Params) : List Obj := hf11B pwBody P
noncomputable def hf10B (B : List Stmt) (P : Params) : List Obj := o120 P :: (o121B B) P :: o122 P :: o123 P :: o124 P :: o125 P :: o126 P :: o127 P :: o128 P :: o129 P :: o130 P :: o131 P :: (hf11B B) P
noncomputable def hf10 (P : Params) : List Obj := hf10B pwBody P
noncomputable def hf9B (B : List Stmt) (P : Params) : List Obj := o108 P :: o109 P :: o110 P :: o111 P :: (o112B B) P :: o113 P :: (o114B B) P :: o115 P :: o116 P :: o117 P :: o118 P :: (o119B B) P :: (hf10B B) P
noncomputable def hf9 (P : Params) : List Obj := hf9B pwBody P
noncomputable def hf8B (B : List Stmt) (P : Params) : List Obj := o96 P :: o97 P :: (o98B B) P :: o99 P :: (o100B B) P :: o101 P :: o102 P :: o103 P :: o104 P :: (o105B B) P :: o106 P :: (o107B B) P :: (hf9B B) P
noncomputable def hf8 (P : Params) : List Obj := hf8B pwBody P
noncomputable def hf7B (B : List Stmt) (P : Params) : List Obj := o84 P :: o85 P :: o86 P :: (o87B B) P :: o88 P :: (o89B B) P :: o90 P :: o91 P :: o92 P :: o93 P :: o94 P :: o95 P :: (hf8B B) P
noncomputable def hf7 (P : Params) : List Obj := hf7B pwBody P
noncomputable def hf6B (B : List Stmt) (P : Params) : List Obj := o72 P :: o73 P :: o74 P :: o75 P :: o76 P :: o77 P :: o78 P :: o79 P :: (o80B B) P :: o81 P :: (o82B B) P :: o83 P :: (hf7B B) P
noncomputable def hf6 (P : Params) : List Obj := hf6B pwBody P
noncomputable def hf5B (B : List Stmt) (P : Params) : List Obj := o60 P :: o61 P :: o62 P :: o63 P :: o64 P :: o65 P :: o66 P :: o67 P :: o68 P :: o69 P :: o70 P :: o71 P :: (hf6B B) P
noncomputable def hf5 (P : Params) : List Obj := hf5B pwBody P
noncomputable def hf4B (B : List Stmt) (P : Params) : List Obj := (o48B B) P :: o49 P :: (o50B B) P :: o51 P :: o52 P :: o53 P :: o54 P :: (o55B B) P :: o56 P :: (o57B B) P :: o58 P :: o59 P :: (hf5B B) P
noncomputable def hf4 (P : Params) : List Obj := hf4B pwBody P
noncomputable def hf3B (B : List Stmt) (P : Params) : List Obj := o36 P :: o37 P :: o38 P :: o39 P :: o40 P :: (o41B B) P :: o42 P :: (o43B B) P :: o44 P :: o45 P :: o46 P :: o47 P :: (hf4B B) P
noncomputable def hf3 (P : Params) : List Obj := hf3B pwBody P
noncomputable def hf2B (B : List Stmt) (P : Params) : List Obj := o24 P :: o25 P :: o26 P :: o27 P :: o28 P :: o29 P :: o30 P :: o31 P :: o32 P :: (o33B B) P :: o34 P :: (o35B B) P :: (hf3B B) P
noncomputable def hf2 (P : Params) : List Obj := hf2B pwBody P
noncomputable def hf1B (B : List Stmt) (P : Params) : List Obj := o12 P :: o13 P :: o14 P :: o15 P :: o16 P :: o17 P :: o18 P :: (o19B B) P :: o20 P :: (o21B B) P :: o22 P :: o23 P :: (hf2B B) P
noncomputable def hf1 (P : Params) : List Obj := hf1B pwBody P
noncomputable def hf0B (B : List Stmt) (P : Params) : List Obj := PySem.W.boot_o_0 P :: PySem.W.boot_o_1 P :: PySem.W.boot_o_2 P :: o3 P :: PySem.W.boot_o_4 P :: PySem.W.boot_o_5 P :: PySem.W.boot_o_6 P :: PySem.W.boot_o_7 P :: PySem.W.boot_o_8 P :: PySem.W.boot_o_9 P :: PySem.W.boot_o_10 P :: o11 P :: (hf1B B) P
noncomputable def hf0 (P : Params) : List Obj := hf0B pwBody P
noncomputable def heapFinB (B : List Stmt) (P : Params) : Heap := ⟨Array.mk ((hf0B B) P), (boot_heap P).life⟩
noncomputable def heapFin (P : Params) : Heap := heapFinB pwBody P
noncomputable def tf0 (P : Params) : BT := (.node (o63 P) (.node (o127 P) (.node (o255 P) .nil .nil) .nil) (.node (o191 P) .nil .nil))
noncomputable def tf1 (P : Params) : BT := (.node (o71 P) (.node (o135 P) (.node (o263 P) .nil .nil) .nil) (.node (o199 P) .nil .nil))
noncomputable def tf2B (B : List Stmt) (P : Params) : BT := (.node (PySem.W.boot_o_7 P) (.node (o15 P) (.node (o31 P) (tf0 P) (.node (o95 P) (.node (o159 P) .nil .nil) (.node ((o223B B) P) .nil .nil))) (.node (o47 P) (.node (o79 P) (.node ((o143B B) P) .nil .nil) (.node (o207 P) .nil .nil)) (.node (o111 P) (.node (o175 P) .nil .nil) (.node ((o239B B) P) .nil .nil)))) (.node (o23 P) (.node (o39 P) (tf1 P) (.node (o103 P) (.node ((o167B B) P) .nil .nil) (.node (o231 P) .nil .nil))) (.node ((o55B B) P) (.node ((o87B B) P) (.node (o151 P) .nil .nil) (.node (o215 P) .nil .nil)) (.node ((o119B B) P) (.node (o183 P) .nil .nil) (.node (o247 P) .nil .nil)))))
noncomputable def tf2 (P : Params) : BT := tf2B pwBody P
noncomputable def tf3B (B : List Stmt) (P : Params) : BT := (.node (o67 P) (.node (o131 P) (.node ((o259B B) P) .nil .nil) .nil) (.node (o195 P) .nil .nil))
noncomputable def tf3 (P : Params) : BT := tf3B pwBody P
noncomputable def tf4B (B : List Stmt) (P : Params) : BT := (.node (o11 P) (.node ((o19B B) P) (.node ((o35B B) P) ((tf3B B) P) (.node (o99 P) (.node (o163 P) .nil .nil) (.node (o227 P) .nil .nil))) (.node (o51 P) (.node (o83 P) (.node (o147 P) .nil .nil) (.node (o211 P) .nil .nil)) (.node (o115 P) (.node ((o179B B) P) .nil .nil) (.node (o243 P) .nil .nil)))) (.node (o27 P) (.node ((o43B B) P) (.node (o75 P) (.node (o139 P) .nil .nil) (.node ((o203B B) P) .nil .nil)) (.node ((o107B B) P) (.node (o171 P) .nil .nil) (.node (o235 P) .nil .nil))) (.node (o59 P) (.node (o91 P) (.node (o155 P) .nil .nil) (.node (o219 P) .nil .nil)) (.node (o123 P) (.node (o187 P) .nil .nil) (.node ((o251B B) P) .nil .nil)))))
noncomputable def tf4 (P : Params) : BT := tf4B pwBody P
noncomputable def tf5 (P : Params) : BT := (.node (o65 P) (.node (o129 P) (.node (o257 P) .nil .nil) .nil) (.node (o193 P) .nil .nil))
noncomputable def tf6B (B : List Stmt) (P : Params) : BT := (.node (o73 P) (.node (o137 P) (.node (o265 P) .nil .nil) .nil) (.node ((o201B B) P) .nil .nil))
noncomputable def tf6 (P : Params) : BT := tf6B pwBody P
noncomputable def tf7B (B : List Stmt) (P : Params) : BT := (.node (PySem.W.boot_o_9 P) (.node (o17 P) (.node ((o33B B) P) (tf5 P) (.node (o97 P) (.node (o161 P) .nil .nil) (.node ((o225B B) P) .nil .nil))) (.node (o49 P) (.node (o81 P) (.node ((o145B B) P) .nil .nil) (.node (o209 P) .nil .nil)) (.node (o113 P) (.node (o177 P) .nil .nil) (.node ((o241B B) P) .nil .nil)))) (.node (o25 P) (.node ((o41B B) P) ((tf6B B) P) (.node ((o105B B) P) (.node (o169 P) .nil .nil) (.node (o233 P) .nil .nil))) (.node ((o57B B) P) (.node ((o89B B) P) (.node (o153 P) .nil .nil) (.node (o217 P) .nil .nil)) (.node ((o121B B) P) (.node (o185 P) .nil .nil) (.node ((o249B B) P) .nil .nil)))))
noncomputable def tf7 (P : Params) : BT := tf7B pwBody P
noncomputable def tf8B (B : List Stmt) (P : Params) : BT := (.node (o69 P) (.node (o133 P) (.node ((o261B B) P) .nil .nil) .nil) (.node (o197 P) .nil .nil))
noncomputable def tf8 (P : Params) : BT := tf8B pwBody P
noncomputable def tf9B (B : List Stmt) (P : Params) : BT := (.node (o13 P) (.node ((o21B B) P) (.node (o37 P) ((tf8B B) P) (.node (o101 P) (.node ((o165B B) P) .nil .nil) (.node (o229 P) .nil .nil))) (.node (o53 P) (.node (o85 P) (.node (o149 P) .nil .nil) (.node (o213 P) .nil .nil)) (.node (o117 P) (.node ((o181B B) P) .nil .nil) (.node (o245 P) .nil .nil)))) (.node (o29 P) (.node (o45 P) (.node (o77 P) (.node (o141 P) .nil .nil) (.node (o205 P) .nil .nil)) (.node (o109 P) (.node (o173 P) .nil .nil) (.node ((o237B B) P) .nil .nil))) (.node (o61 P) (.node (o93 P) (.node (o157 P) .nil .nil) (.node (o221 P) .nil .nil)) (.node (o125 P) (.node (o189 P) .nil .nil) (.node (o253 P) .nil .nil)))))
noncomputable def tf9 (P : Params) : BT := tf9B pwBody P
noncomputable def tf10B (B : List Stmt) (P : Params) : BT := (.node (o64 P) (.node (o128 P) (.node ((o256B B) P) .nil .nil) .nil) (.node (o192 P) .nil .nil))
noncomputable def tf10 (P : Params) : BT := tf10B pwBody P
noncomputable def tf11B (B : List Stmt) (P : Params) : BT := (.node (o72 P) (.node (o136 P) (.node ((o264B B) P) .nil .nil) .nil) (.node (o200 P) .nil .nil))
noncomputable def tf11 (P : Params) : BT := tf11B pwBody P
noncomputable def tf12B (B : List Stmt) (P : Params) : BT := (.node (PySem.W.boot_o_8 P) (.node (o16 P) (.node (o32 P) ((tf10B B) P) (.node (o96 P) (.node ((o160B B) P) .nil .nil) (.node (o224 P) .nil .nil))) (.node ((o48B B) P) (.node ((o80B B) P) (.node (o144 P) .nil .nil) (.node ((o208B B) P) .nil .nil)) (.node ((o112B B) P) (.node (o176 P) .nil .nil) (.node (o240 P) .nil .nil)))) (.node (o24 P) (.node (o40 P) ((tf11B B) P) (.node (o104 P) (.node (o168 P) .nil .nil) (.node ((o232B B) P) .nil .nil))) (.node (o56 P) (.node (o88 P) (.node (o152 P) .nil .nil) (.node ((o216B B) P) .nil .nil)) (.node (o120 P) (.node (o184 P) .nil .nil) (.node (o248 P) .nil .nil)))))
noncomputable def tf12 (P : Params) : BT := tf12B pwBody P
noncomputable def tf13B (B : List Stmt) (P : Params) : BT := (.node (o68 P) (.node (o132 P) (.node (o260 P) .nil .nil) .nil) (.node ((o196B B) P) .nil .nil))
noncomputable def tf13 (P : Params) : BT := tf13B pwBody P
noncomputable def tf14B (B : List Stmt) (P : Params) : BT := (.node (o12 P) (.node (o20 P) (.node (o36 P) ((tf13B B) P) (.node ((o100B B) P) (.node (o164 P) .nil .nil) (.node (o228 P) .nil .nil))) (.node (o52 P) (.node (o84 P) (.node ((o148B B) P) .nil .nil) (.node (o212 P) .nil .nil)) (.node (o116 P) (.node (o180 P) .nil .nil) (.node (o244 P) .nil .nil)))) (.node (o28 P) (.node (o44 P) (.node (o76 P) (.node (o140 P) .nil .nil) (.node (o204 P) .nil .nil)) (.node (o108 P) (.node ((o172B B) P) .nil .nil) (.node (o236 P) .nil .nil))) (.node (o60 P) (.node (o92 P) (.node (o156 P) .nil .nil) (.node (o220 P) .nil .nil)) (.node (o124 P) (.node ((o188B B) P) .nil .nil) (.node (o252 P) .nil .nil)))))
noncomputable def tf14 (P : Params) : BT := tf14B pwBody P
noncomputable def tf15B (B : List Stmt) (P : Params) : BT := (.node (o66 P) (.node (o130 P) (.node (o258 P) .nil .nil) .nil) (.node ((o194B B) P) .nil .nil))
noncomputable def tf15 (P : Params) : BT := tf15B pwBody P
noncomputable def tf16B (B : List Stmt) (P : Params) : BT := (.node (o74 P) (.node (o138 P) (.node ((o266B B) P) .nil .nil) .nil) (.node (o202 P) .nil .nil))
noncomputable def tf16 (P : Params) : BT := tf16B pwBody P
noncomputable def tf17B (B : List Stmt) (P : Params) : BT := (.node (PySem.W.boot_o_10 P) (.node (o18 P) (.node (o34 P) ((tf15B B) P) (.node ((o98B B) P) (.node (o162 P) .nil .nil) (.node (o226 P) .nil .nil))) (.node ((o50B B) P) (.node ((o82B B) P) (.node (o146 P) .nil .nil) (.node ((o210B B) P) .nil .nil)) (.node ((o114B B) P) (.node (o178 P) .nil .nil) (.node (o242 P) .nil .nil)))) (.node (o26 P) (.node (o42 P) ((tf16B B) P) (.node (o106 P) (.node (o170 P) .nil .nil) (.node (o234 P) .nil .nil))) (.node (o58 P) (.node (o90 P) (.node (o154 P) .nil .nil) (.node ((o218B B) P) .nil .nil)) (.node (o122 P) (.node ((o186B B) P) .nil .nil) (.node (o250 P) .nil .nil)))))
noncomputable def tf17 (P : Params) : BT := tf17B pwBody P
noncomputable def tf18 (P : Params) : BT := (.node (o70 P) (.node (o134 P) (.node (o262 P) .nil .nil) .nil) (.node (o198 P) .nil .nil))
noncomputable def tf19B (B : List Stmt) (P : Params) : BT := (.node (o14 P) (.node (o22 P) (.node (o38 P) (tf18 P) (.node (o102 P) (.node (o166 P) .nil .nil) (.node ((o230B B) P) .nil .nil))) (.node (o54 P) (.node (o86 P) (.node (o150 P) .nil .nil) (.node (o214 P) .nil .nil)) (.node (o118 P) (.node (o182 P) .nil .nil) (.node (o246 P) .nil .nil)))) (.node (o30 P) (.node (o46 P) (.node (o78 P) (.node (o142 P) .nil .nil) (.node (o206 P) .nil .nil)) (.node (o110 P) (.node ((o174B B) P) .nil .nil) (.node (o238 P) .nil .nil))) (.node (o62 P) (.node (o94 P) (.node ((o158B B) P) .nil .nil) (.node (o222 P) .nil .nil)) (.node (o126 P) (.node (o190 P) .nil .nil) (.node ((o254B B) P) .nil .nil)))))
noncomputable def tf19 (P : Params) : BT := tf19B pwBody P
noncomputable def treeFinB (B : List Stmt) (P : Params) : BT := (.node (PySem.W.boot_o_0 P) (.node (PySem.W.boot_o_1 P) (.node (o3 P) ((tf2B B) P) ((tf4B B) P)) (.node (PySem.W.boot_o_5 P) ((tf7B B) P) ((tf9B B) P))) (.node (PySem.W.boot_o_2 P) (.node (PySem.W.boot_o_4 P) ((tf12B B) P) ((tf14B B) P)) (.node (PySem.W.boot_o_6 P) ((tf17B B) P) ((tf19B B) P))))
noncomputable def treeFin (P : Params) : BT := treeFinB pwBody P
noncomputable def frag (P : Params) : Frag := [(1, PySem.W.boot_o_1 P), (2, PySem.W.boot_o_2 P), (3, o3 P), (15, o15 P), (17, o17 P), (18, o18 P), (20, o20 P), (21, o21 P), (29, o29 P), (31, o31 P), (32, o32 P), (34, o34 P), (35, o35 P), (36, o36 P), (37, o37 P), (39, o39 P), (40, o40 P), (42, o42 P), (43, o43 P), (44, o44 P), (46, o46 P), (47, o47 P), (49, o49 P), (50, o50 P), (51, o51 P), (53, o53 P), (54, o54 P), (56, o56 P), (57, o57 P), (58, o58 P), (59, o59 P), (60, o60 P), (61, o61 P), (62, o62 P), (65, o65 P), (68, o68 P), (73, o73 P), (74, o74 P), (75, o75 P), (76, o76 P), (78, o78 P), (79, o79 P), (81, o81 P), (82, o82 P), (83, o83 P), (85, o85 P), (86, o86 P), (88, o88 P), (89, o89 P), (90, o90 P), (91, o91 P), (92, o92 P), (93, o93 P), (94, o94 P), (96, o96 P), (97, o97 P), (99, o99 P), (100, o100 P), (101, o101 P), (103, o103 P), (104, o104 P), (106, o106 P), (107, o107 P), (108, o108 P), (110, o110 P), (111, o111 P), (113, o113 P), (114, o114 P), (115, o115 P), (117, o117 P), (118, o118 P), (120, o120 P), (121, o121 P), (122, o122 P), (123, o123 P), (124, o124 P), (126, o126 P), (127, o127 P), (129, o129 P), (130, o130 P), (132, o132 P), (134, o134 P), (135, o135 P), (136, o136 P), (139, o139 P), (141, o141 P), (142, o142 P), (144, o144 P), (145, o145 P), (153, o153 P), (154, o154 P), (156, o156 P), (157, o157 P), (159, o159 P), (160, o160 P), (161, o161 P), (163, o163 P), (164, o164 P), (166, o166 P), (167, o167 P), (168, o168 P), (170, o170 P), (171, o171 P), (173, o173 P), (174, o174 P), (175, o175 P), (177, o177 P), (178, o178 P), (180, o180 P), (181, o181 P), (182, o182 P), (184, o184 P), (185, o185 P), (187, o187 P), (188, o188 P), (189, o189 P), (190, o190 P), (192, o192 P), (193, o193 P), (195, o195 P), (196, o196 P), (197, o197 P), (199, o199 P), (200, o200 P), (202, o202 P), (203, o203 P), (204, o204 P), (206, o206 P), (207, o207 P), (209, o209 P), (210, o210 P), (211, o211 P), (212, o212 P), (214, o214 P), (215, o215 P), (217, o217 P), (218, o218 P), (219, o219 P), (221, o221 P), (222, o222 P), (224, o224 P), (225, o225 P), (226, o226 P), (228, o228 P), (229, o229 P), (231, o231 P), (232, o232 P), (233, o233 P), (235, o235 P), (236, o236 P), (238, o238 P), (239, o239 P), (240, o240 P), (241, o241 P), (242, o242 P), (243, o243 P), (244, o244 P), (247, o247 P), (250, o250 P), (251, o251 P), (252, o252 P), (255, o255 P), (256, o256 P), (257, o257 P), (260, o260 P), (261, o261 P), (262, o262 P), (265, o265 P), (266, o266 P)]
noncomputable def fragAt : List Addr := [1, 2, 3, 15, 17, 18, 20, 21, 29, 31, 32, 34, 35, 36, 37, 39, 40, 42, 43, 44, 46, 47, 49, 50, 51, 53, 54, 56, 57, 58, 59, 60, 61, 62, 65, 68, 73, 74, 75, 76, 78, 79, 81, 82, 83, 85, 86, 88, 89, 90, 91, 92, 93, 94, 96, 97, 99, 100, 101, 103, 104, 106, 107, 108, 110, 111, 113, 114, 115, 117, 118, 120, 121, 122, 123, 124, 126, 127, 129, 130, 132, 134, 135, 136, 139, 141, 142, 144, 145, 153, 154, 156, 157, 159, 160, 161, 163, 164, 166, 167, 168, 170, 171, 173, 174, 175, 177, 178, 180, 181, 182, 184, 185, 187, 188, 189, 190, 192, 193, 195, 196, 197, 199, 200, 202, 203, 204, 206, 207, 209, 210, 211, 212, 214, 215, 217, 218, 219, 221, 222, 224, 225, 226, 228, 229, 231, 232, 233, 235, 236, 238, 239, 240, 241, 242, 243, 244, 247, 250, 251, 252, 255, 256, 257, 260, 261, 262, 265, 266]
noncomputable def annV : Option Value := (some (.ref 6))
noncomputable def envTop : Env := { scope := PySem.Challenge.pw_dm0052_12.main.scope, locals := mainNs, globals := mainNs, cells := [], code := (.ref 13), frame := some 14 }
noncomputable def envQ : Env := { scope := PySem.W.Fast.tw3081731319412875699.main.scope, locals := mainNs, globals := mainNs, cells := [], code := (.ref 13), frame := some 14 }
theorem envEq : envTop = envQ := by
  unfold envTop envQ
  rw [PySem.W.Fast.te3081731319412875699]
noncomputable def viewP : Program := { PySem.Challenge.pw_dm0052_12 with main := { PySem.Challenge.pw_dm0052_12.main with body := [0, 2, 3, 4, 5, 7, 8, 9, 10].map (stN pwBody) } }
noncomputable def looseN : List Str := [Str.ofString "_tuplegetter", Str.ofString "Match", Str.ofString "SequenceMatcher"]
theorem bodyEq : pwBody = twBody := by
  unfold pwBody twBody
  rw [PySem.W.Fast.te3081731319412875699]
theorem segAll (w : World) (os : OsState) : segRunT treeTable PySem.Challenge.pw_dm0052_12 w 11 annV 1 2199 (⟨treePre w.params, 15, (boot_heap w.params).life, Array.mk [], boot_drawn, 187, os⟩ : SharedT) (piecesOf (behindTheImports PySem.Challenge.pw_dm0052_12) envTop (Code.body (behindTheImports PySem.Challenge.pw_dm0052_12) envTop) ⟨0, 0, 0, 0⟩ [topFrame ⟨0, 0, 0, 0⟩]) = some (.next, (⟨treeFin w.params, 267, (boot_heap w.params).life, Array.mk [], boot_drawn, 601, os⟩ : SharedT), (Code.body (behindTheImports PySem.Challenge.pw_dm0052_12) envTop), ⟨433, 0, 459, 78⟩) := by
  unfold treeFin
  rw [bodyEq, PySem.W.Fast.te10110043849684766642, tabOf_eq, PySem.W.Fast.te3081731319412875699, envEq]
  delta PySem.W.Fast.tw4202317264376624991
  rw [anyQ_eq]
  kernel_rfl!
theorem preRun (w : World) (os : OsState) : topGo treeTable PySem.Challenge.pw_dm0052_12 w 11 annV 12 (⟨boot_heap w.params, Array.mk [], boot_drawn, boot_toks, os⟩ : Shared) (topStub PySem.Challenge.pw_dm0052_12) = some ((⟨heapPre w.params, Array.mk [], boot_drawn, 187, os⟩ : Shared), ⟨denote treeTable (Code.body (behindTheImports PySem.Challenge.pw_dm0052_12) envTop), (Code.body (behindTheImports PySem.Challenge.pw_dm0052_12) envTop), ⟨0, 0, 0, 0⟩, [topFrame ⟨0, 0, 0, 0⟩]⟩) := by
  rw [PySem.W.Fast.te15667345088766844465, PySem.W.Fast.te11892475500146522536, PySem.W.Fast.te14364793385576792824, PySem.W.Fast.te3081731319412875699, envEq]
  kernel_rfl!
theorem blockRun (w : World) (os : OsState) : segRun treeTable PySem.Challenge.pw_dm0052_12 w 11 annV 1 1 (⟨heapPre w.params, Array.mk [], boot_drawn, 187, os⟩ : Shared) (blockOf (behindTheImports PySem.Challenge.pw_dm0052_12) envTop (Code.body (behindTheImports PySem.Challenge.pw_dm0052_12) envTop) ⟨0, 0, 0, 0⟩ [topFrame ⟨0, 0, 0, 0⟩]) = some (.next, (⟨treePre w.params, 15, (boot_heap w.params).life, Array.mk [], boot_drawn, 187, os⟩ : SharedT).abs, (Code.body (behindTheImports PySem.Challenge.pw_dm0052_12) envTop), ⟨0, 0, 0, 0⟩) := by
  rw [PySem.W.Fast.te14374325043358763698, PySem.W.Fast.te14364793385576792824, PySem.W.Fast.te3081731319412875699, envEq]
  kernel_rfl!
theorem finRun (w : World) (os : OsState) : topRun treeTable PySem.Challenge.pw_dm0052_12 w 11 annV 2 (⟨treeFin w.params, 267, (boot_heap w.params).life, Array.mk [], boot_drawn, 601, os⟩ : SharedT).abs ⟨doneF .next, (Code.body (behindTheImports PySem.Challenge.pw_dm0052_12) envTop), ⟨433, 0, 459, 78⟩, [topFrame ⟨0, 0, 0, 0⟩]⟩ = some (⟨heapFin w.params, Array.mk [], boot_drawn, 601, os⟩ : Shared) := by
  rw [PySem.W.Fast.te14082659384304107361, PySem.W.Fast.te14364793385576792824, PySem.W.Fast.te3081731319412875699, envEq]
  kernel_rfl!
theorem topAll (w : World) (os : OsState) : topRun treeTable PySem.Challenge.pw_dm0052_12 w 11 annV (12 + (1 + (2199 + 2))) (⟨boot_heap w.params, Array.mk [], boot_drawn, boot_toks, os⟩ : Shared) (topStub PySem.Challenge.pw_dm0052_12) = some (⟨heapFin w.params, Array.mk [], boot_drawn, 601, os⟩ : Shared) := by
  refine go_top (preRun w os) (piece_block (blockRun w os) ?_)
  have k := piece_app (rest := []) (segRun_of (segAll w os)) (piece_nil (finRun w os))
  rw [List.append_nil] at k
  exact k
theorem opened : ∀ w : World, (fencedOpening treeTable PySem.Challenge.pw_dm0052_12 w 4522).map (fun s => (s.heap, s.gens, s.drawn, s.toks)) = some (boot_heap w.params, Array.mk [], boot_drawn, boot_toks) :=
  boot_open (by kernel_rfl!) (by decide) (fun s => by kernel_rfl!)
theorem sized : ∀ w : World, ((boot_heap w.params).isNs mainGlobals && (Array.mk [] : Array GenState).size == 0, (boot_heap w.params).objs.size, (boot_heap w.params).nsMap mainGlobals "__annotations__") = (true, 11, annV) := fun w => by kernel_rfl!
theorem fragAll : ∀ P, fragAt = (frag P).map (·.1) := fun P => by kernel_rfl!
theorem look1 (w : World) (os : OsState) : (staticsOk (importedModules PySem.Challenge.pw_dm0052_12.main.body) (boot_heap w.params) (heapFin w.params) && namesBound PySem.Challenge.pw_dm0052_12 (heapFin w.params) && gensDone (⟨heapFin w.params, Array.mk [], boot_drawn, 601, os⟩ : Shared) && laidKept (boot_heap w.params) (heapFin w.params)) = true := by
  rw [PySem.W.Fast.te3081731319412875699]
  kernel_rfl!
theorem look2 (w : World) (os : OsState) : openSeen viewP looseN (importedModules PySem.Challenge.pw_dm0052_12.main.body) (fun s => xlAt viewP [] s && recOk [] s) true (⟨heapFin w.params, Array.mk [], boot_drawn, 601, os⟩ : Shared) = openGood viewP looseN := by
  rw [PySem.W.Fast.te4187177175401517315, PySem.W.Fast.te3081731319412875699]
  kernel_rfl!
theorem look3 (w : World) (os : OsState) : fragAt.map (⟨heapFin w.params, Array.mk [], boot_drawn, 601, os⟩ : Shared).heap.get? = (frag w.params).map fun p => some p.2 := by
  kernel_rfl!
theorem left : LeftO PySem.Challenge.pw_dm0052_12 viewP looseN (fun s => xlAt viewP [] s && recOk [] s) (kHook frag fragAt fragAll).obs (kHook frag fragAt fragAll).val 4522 :=
  LeftO.of_pieces opened sized topAll (by decide) (fun w => funext fun os => looks_pair (look1 w os) (looks_pair (look2 w os) (look3 w os)))
end Mine

end
section
open PySem PySem.W PyProof.Rows
set_option Elab.async false
set_option linter.unusedVariables false
set_option maxRecDepth 100000
namespace Mine
local macro_rules | `(tactic| walk_at "mem") => `(tactic| first | with_reducible exact List.mem_cons_self | (with_reducible refine List.mem_cons_of_mem _ ?_; walk_at "mem") | (with_reducible refine List.mem_append_left _ ?_; walk_at "mem") | (with_reducible refine List.mem_append_right _ ?_; walk_at "mem"))

noncomputable def Sub (D : List Addr) (h h' : Heap) : Prop := ∀ b o, b ∉ D → h.get? b = some o → h'.get? b = some o
theorem Sub.trans {D : List Addr} {h h' h'' : Heap} (x : Sub D h h') (y : Sub D h' h'') : Sub D h h'' := fun b o n e => y b o n (x b o n e)
theorem Sub.nil {D : List Addr} {h h' : Heap} (x : Sub [] h h') : Sub D h h' := fun b o _ e => x b o (by first | walk_at "mem" | simp) e
theorem Sub.push (h : Heap) (o : Obj) : Sub [] h (h.push o) := fun _ _ _ e => Heap.get?_push_of_some _ e
theorem Sub.of_keep {h h' : Heap} (k : ∀ b o, h.get? b = some o → h'.get? b = some o) : Sub [] h h' := fun b o _ e => k b o e
theorem Sub.keep {h h' : Heap} (x : Sub [] h h') : ∀ b o, h.get? b = some o → h'.get? b = some o := fun b o e => x b o (by first | walk_at "mem" | simp) e
theorem Sub.same {d : Addr} {h h' : Heap} (x : Heap.SameBut d h h') : Sub [d] h h' := fun b o n e => (x.2 b (by simpa using n)).trans e
theorem Sub.ext {d : Addr} {h h' : Heap} (x : Heap.ExtBut d h h') : Sub [d] h h' := fun b o n e => x b o (by simpa using n) e
theorem get_size_none (h : Heap) : h.get? h.objs.size = none := by
  cases e : h.get? h.objs.size with
  | none => rfl
  | some o => exact absurd (Heap.lt_size e) (Nat.lt_irrefl _)
theorem get_push_self (h : Heap) (o : Obj) (hf : o.isFreed = false := by rfl) : (h.push o).get? h.objs.size = some o := Heap.get?_push_size _ hf

structure S (h₀ : Heap) (D : List Addr) (L : Addr) (m : Str → Option Value) (l : List (Addr × Obj)) (h : Heap) : Prop where
  base : Sub D h₀ h
  ns : h.Ns L m
  led : ∀ p ∈ l, h.get? p.1 = some p.2
  own : ∀ p ∈ l, p.1 ∈ D ∨ h₀.get? p.1 = none
  nodup : (l.map (·.1)).Nodup
  offL : L ∉ l.map (·.1)
  newL : h₀.get? L = none
  dl : ∀ d ∈ D, d ∈ l.map (·.1)

variable {h₀ h h' : Heap} {D : List Addr} {L : Addr} {m : Str → Option Value} {l : List (Addr × Obj)}

theorem S.get (H : S h₀ D L m l h) {a : Addr} {o : Obj} (hm : (a, o) ∈ l) : h.get? a = some o := H.led _ hm
theorem S.old (H : S h₀ D L m l h) {a : Addr} {o : Obj} (e : h₀.get? a = some o) (n : a ∉ D) : h.get? a = some o := H.base _ _ n e
theorem S.sub (H : S h₀ D L m l h) (x : Sub [] h h') : S h₀ D L m l h' where
  base := H.base.trans x.nil
  ns := let ⟨o, es, ep, e, r⟩ := H.ns; ⟨o, es, ep, x _ _ (by first | walk_at "mem" | simp) e, r⟩
  led := fun p hp => x _ _ (by first | walk_at "mem" | simp) (H.led p hp)
  own := H.own
  nodup := H.nodup
  offL := H.offL
  newL := H.newL
  dl := H.dl

theorem S.store {m' : Str → Option Value} (H : S h₀ D L m l h) (hn : h'.Ns L m') (x : Heap.SameBut L h h') : S h₀ D L m' l h' where
  base := fun b o n e => (x.2 b (fun q => by subst q; rw [H.newL] at e; cases e)).trans (H.base b o n e)
  ns := hn
  led := fun p hp => (x.2 p.1 (fun q => H.offL (q ▸ List.mem_map_of_mem hp))).trans (H.led p hp)
  own := H.own
  nodup := H.nodup
  offL := H.offL
  newL := H.newL
  dl := H.dl

theorem S.add {a : Addr} {o : Obj} (H : S h₀ D L m l h) (x : Sub [] h h') (hn : h.get? a = none) (ho : h'.get? a = some o) : S h₀ D L m ((a, o) :: l) h' where
  base := (H.sub x).base
  ns := (H.sub x).ns
  led := fun p hp => by
    rcases List.mem_cons.mp hp with rfl | hp
    · exact ho
    · exact (H.sub x).led p hp
  own := fun p hp => by
    rcases List.mem_cons.mp hp with rfl | hp
    · by_cases q : a ∈ D
      · exact .inl q
      · refine .inr ?_
        cases e : h₀.get? a with
        | none => rfl
        | some o' => rw [H.base a o' q e] at hn; cases hn
    · exact H.own p hp
  nodup := by
    rw [List.map_cons, List.nodup_cons]
    refine ⟨fun q => ?_, H.nodup⟩
    obtain ⟨p, hp, e⟩ := List.mem_map.mp q
    have := H.led p hp
    rw [e, hn] at this; cases this
  offL := by
    rw [List.map_cons, List.mem_cons]
    rintro (q | q)
    · obtain ⟨o', _, _, e, _⟩ := H.ns
      rw [q, hn] at e; cases e
    · exact H.offL q
  newL := H.newL
  dl := fun d hd => List.mem_cons_of_mem _ (H.dl d hd)

theorem S.upd {d : Addr} {o o' : Obj} (H : S h₀ D L m l h) (i : Nat) (hi : l[i]? = some (d, o)) (x : Sub [d] h h') (ho : h'.get? d = some o') : S h₀ D L m (l.set i (d, o')) h' where
  base := fun b ob n e => x b ob (fun q => by
    obtain rfl : b = d := by simpa using q
    rcases H.own (b, o) (List.mem_of_getElem? hi) with y | y
    · exact n y
    · rw [y] at e; cases e) (H.base b ob n e)
  ns := by
    obtain ⟨oL, es, ep, e, r⟩ := H.ns
    refine ⟨oL, es, ep, x _ _ (fun q => ?_) e, r⟩
    obtain rfl : L = d := by simpa using q
    exact H.offL (List.mem_map.mpr ⟨_, List.mem_of_getElem? hi, rfl⟩)
  led := fun p hp => by
    obtain ⟨j, hj, rfl⟩ := List.getElem_of_mem hp
    rw [List.getElem_set] at *
    rw [List.length_set] at hj
    split
    · exact ho
    · rename_i ne
      refine x _ _ (fun q => ?_) (H.led _ (List.getElem_mem hj))
      have hi' : i < l.length := by
        rcases Nat.lt_or_ge i l.length with y | y
        · exact y
        · rw [List.getElem?_eq_none y] at hi; cases hi
      have e1 : l[i] = (d, o) := by rw [List.getElem?_eq_getElem hi'] at hi; exact Option.some.inj hi
      have e2 : l[j].1 = d := by simpa using q
      have nd := List.pairwise_iff_getElem.mp H.nodup
      rcases Nat.lt_trichotomy i j with y | y | y
      · exact nd i j (by simpa using hi') (by simpa using hj) y (by simp [e1, e2])
      · exact ne y
      · exact nd j i (by simpa using hj) (by simpa using hi') y (by simp [e1, e2])
  own := fun p hp => by
    rcases List.mem_or_eq_of_mem_set hp with y | y
    · exact H.own p y
    · subst y; exact H.own (d, o) (List.mem_of_getElem? hi)
  nodup := by
    have e : (l.set i (d, o')).map (·.1) = l.map (·.1) := by
      rw [List.map_set]
      refine List.ext_getElem (by first | walk_at "mem" | simp) fun j h1 h2 => ?_
      rw [List.getElem_set]
      split
      · rename_i e; subst e
        have hi' : i < l.length := by simpa using h2
        rw [List.getElem?_eq_getElem hi'] at hi
        have := Option.some.inj hi
        simp [this]
      · rfl
    rw [e]; exact H.nodup
  offL := by
    have e : (l.set i (d, o')).map (·.1) = l.map (·.1) := by
      rw [List.map_set]
      refine List.ext_getElem (by first | walk_at "mem" | simp) fun j h1 h2 => ?_
      rw [List.getElem_set]
      split
      · rename_i e; subst e
        have hi' : i < l.length := by simpa using h2
        rw [List.getElem?_eq_getElem hi'] at hi
        have := Option.some.inj hi
        simp [this]
      · rfl
    rw [e]; exact H.offL
  newL := H.newL
  dl := by
    have e : (l.set i (d, o')).map (·.1) = l.map (·.1) := by
      rw [List.map_set]
      refine List.ext_getElem (by first | walk_at "mem" | simp) fun j h1 h2 => ?_
      rw [List.getElem_set]
      split
      · rename_i e; subst e
        have hi' : i < l.length := by simpa using h2
        rw [List.getElem?_eq_getElem hi'] at hi
        have := Option.some.inj hi
        simp [this]
      · rfl
    rw [e]; exact H.dl

theorem S.drop {l' : List (Addr × Obj)} (H : S h₀ D L m l h) (hs : l'.Sublist l) (hd : ∀ d ∈ D, d ∈ l'.map (·.1)) : S h₀ D L m l' h where
  base := H.base
  ns := H.ns
  led := fun p hp => H.led p (hs.subset hp)
  own := fun p hp => H.own p (hs.subset hp)
  nodup := (hs.map _).nodup H.nodup
  offL := fun q => H.offL ((hs.map _).subset q)
  newL := H.newL
  dl := hd
end Mine

end
local macro_rules | `(tactic| walk_at "mem") => `(tactic| first | with_reducible exact List.mem_cons_self | (with_reducible refine List.mem_cons_of_mem _ ?_; walk_at "mem") | (with_reducible refine List.mem_append_left _ ?_; walk_at "mem") | (with_reducible refine List.mem_append_right _ ?_; walk_at "mem"))
section
open PySem PySem.W PyProof.Rows
set_option Elab.async false
set_option linter.unusedVariables false
set_option maxRecDepth 100000
namespace Mine
section
variable {prog : Program} {w : World} {A : Around} {α β : Type} {h h' : Heap} {env : Env}

theorem ite_cases {c : Prop} [Decidable c] {P R : Prop} (isTrue : c → P) (isFalse : ¬ c → R) : if c then P else R := by
  by_cases h : c
  · rw [if_pos h]; exact isTrue h
  · rw [if_neg h]; exact isFalse h
noncomputable def T (prog : Program) (w : World) (A : Around) {α : Type} (t : Sem α) (h : Heap) (Q : α → Heap → Prop) : Prop :=
  ∀ s : Shared, s.heap = h → wpAny (model prog w) A t (fun a s' => ∃ h' tk, s' = { s with heap := h', toks := tk } ∧ Q a h') (fun _ _ => False) s

noncomputable def TC (prog : Program) (w : World) (A : Around) (c : Code) (h : Heap) (Q : Value → Heap → Prop) : Prop :=
  ∀ s : Shared, s.heap = h → codeAny (model prog w) A c (fun r s' => ∃ v h' tk, r = .ok (.ret v) ∧ s' = { s with heap := h', toks := tk } ∧ Q v h') s

theorem T.pure {a : α} {Q : α → Heap → Prop} (q : Q a h) : T prog w A (Pure.pure a) h Q := fun s e => wpAny_pure ⟨s.heap, s.toks, rfl, e ▸ q⟩
theorem T.bind {t : Sem α} {f : α → Sem β} {Q : β → Heap → Prop} (x : T prog w A t h fun a h' => T prog w A (f a) h' Q) : T prog w A (t >>= f) h Q := fun s e =>
  wpAny_bind (wpAny_mono (x s e) (by
    rintro a s' ⟨h', tk, rfl, y⟩
    exact wpAny_mono (y _ rfl) (by rintro b s'' ⟨h'', tk', rfl, z⟩; exact ⟨h'', tk', rfl, z⟩) fun _ _ z => z) fun _ _ z => z.elim)
theorem T.mono {t : Sem α} {Q Q' : α → Heap → Prop} (x : T prog w A t h Q) (q : ∀ a h', Q a h' → Q' a h') : T prog w A t h Q' := fun s e =>
  wpAny_mono (x s e) (by rintro a s' ⟨h', tk, rfl, y⟩; exact ⟨h', tk, rfl, q _ _ y⟩) fun _ _ z => z
theorem T.of {t : Sem α} {Q : α → Heap → Prop} (x : ∀ s : Shared, s.heap = h → wpAny (model prog w) A t (fun a s' => ∃ h' tk, s' = { s with heap := h', toks := tk } ∧ Q a h') (fun _ _ => False) s) : T prog w A t h Q := x
theorem T.elim {t : Sem α} {Q : α → Heap → Prop} {s : Shared} {Q' : α → Shared → Prop} {E : Value → Shared → Prop} (x : T prog w A t s.heap Q) (q : ∀ a h' tk, Q a h' → Q' a { s with heap := h', toks := tk }) : wpAny (model prog w) A t Q' E s :=
  wpAny_mono (x s rfl) (by rintro a s' ⟨h', tk, rfl, y⟩; exact q _ _ _ y) fun _ _ z => z.elim
theorem T.eq {t t' : Sem α} {Q : α → Heap → Prop} (e : t = t') (x : T prog w A t' h Q) : T prog w A t h Q := e ▸ x
theorem T.holding {vs : List Value} {t : Sem α} {Q : α → Heap → Prop} (x : T prog w A t h Q) : T prog w A (holding vs t) h Q := fun s e => wpAny_holding (x s e)
theorem T.standAt {p : Pos} {Q : Unit → Heap → Prop} (q : Q () h) : T prog w A (standAt p) h Q := fun s e => wpAny_standAt ⟨s.heap, s.toks, rfl, e ▸ q⟩
theorem T.call {f : Value} {pos : List Value} {kw : List (Str × Value)} {Q : Value → Heap → Prop} (x : TC prog w A (.call f ⟨pos, kw⟩) h Q) : T prog w A (call f pos kw) h Q := fun s e =>
  wpAny_call (codeAny_mono (x s e) (by rintro r s' ⟨v, h', tk, rfl, rfl, q⟩; exact ⟨h', tk, rfl, q⟩))
theorem T.execs_nil {Q : Flow → Heap → Prop} (q : Q .next h) : T prog w A (execs [] env) h Q := fun s e => wpAny_execs_nil ⟨s.heap, s.toks, rfl, e ▸ q⟩
theorem T.execs_cons {st : Stmt} {rest : List Stmt} {Q : Flow → Heap → Prop} (x : T prog w A (exec st env) h fun f h' => match f with | .next => T prog w A (execs rest env) h' Q | f => Q f h') :
    T prog w A (execs (st :: rest) env) h Q := fun s e => wpAny_execs_cons (wpAny_mono (x s e) (by
    rintro f s' ⟨h', tk, rfl, y⟩
    cases f with
    | next => exact wpAny_mono (y _ rfl) (by rintro b s'' ⟨h'', tk', rfl, z⟩; exact ⟨h'', tk', rfl, z⟩) fun _ _ z => z
    | brk => exact ⟨_, _, rfl, y⟩
    | cont => exact ⟨_, _, rfl, y⟩
    | ret v => exact ⟨_, _, rfl, y⟩) fun _ _ z => z)
theorem T.Assign_Name {x : Str} {px pos : Pos} {value : PySem.Expr} {Q : Flow → Heap → Prop} (t : T prog w A (eval value env) h fun v h' => T prog w A (storeName env x v) h' fun _ => Q .next)
    (hs : swapsWith value (some (.Name x px)) pos.line env = Pure.pure false := by rfl) : T prog w A (exec (.Assign [.Name x px] value pos) env) h Q := fun s e =>
  wpAny_Assign_Name (wpAny_mono (t s e) (by
    rintro v s' ⟨h', tk, rfl, y⟩
    exact wpAny_mono (y _ rfl) (by rintro b s'' ⟨h'', tk', rfl, z⟩; exact ⟨h'', tk', rfl, z⟩) fun _ _ z => z) fun _ _ z => z) hs
theorem T.AugAssign_Name {x : Str} {px pos : Pos} {op : Operator} {value : PySem.Expr} {Q : Flow → Heap → Prop} (t : T prog w A (loadName env x) h fun old h₁ => T prog w A (eval value env) h₁ fun v h₂ => T prog w A (inplaceOp op old v) h₂ fun r h₃ => T prog w A (storeName env x r) h₃ fun _ => Q .next) :
    T prog w A (exec (.AugAssign (.Name x px) op value pos) env) h Q := fun s e =>
  wpAny_AugAssign_Name (wpAny_mono (t s e) (by
    rintro v s' ⟨h', tk, rfl, y⟩
    refine wpAny_mono (y _ rfl) (by
      rintro b s'' ⟨h'', tk', rfl, z⟩
      refine wpAny_mono (z _ rfl) (by
        rintro c s3 ⟨h3, tk3, rfl, z3⟩
        exact wpAny_mono (z3 _ rfl) (by rintro b s'' ⟨h'', tk', rfl, z⟩; exact ⟨h'', tk', rfl, z⟩) fun _ _ z => z) fun _ _ z => z) fun _ _ z => z) fun _ _ z => z)
theorem T.If {test : PySem.Expr} {body orelse : List Stmt} {pos : Pos} {Q : Flow → Heap → Prop} (t : T prog w A (isTrue test env (eval test env)) h fun b h' => if b = true then T prog w A (execs body env) h' Q else T prog w A (execs orelse env) h' Q) :
    T prog w A (exec (.If test body orelse pos) env) h Q := fun s e =>
  wpAny_If (wpAny_mono (t s e) (by
    rintro b s' ⟨h', tk, rfl, y⟩
    cases b with
    | true => exact wpAny_mono (y _ rfl) (by rintro b s'' ⟨h'', tk', rfl, z⟩; exact ⟨h'', tk', rfl, z⟩) fun _ _ z => z
    | false => exact wpAny_mono (y _ rfl) (by rintro b s'' ⟨h'', tk', rfl, z⟩; exact ⟨h'', tk', rfl, z⟩) fun _ _ z => z) fun _ _ z => z)
theorem T.Return {e : PySem.Expr} {pos : Pos} {Q : Flow → Heap → Prop} (t : T prog w A (eval e env) h fun v => Q (.ret v)) : T prog w A (exec (.Return (some e) pos) env) h Q := fun s e => wpAny_Return_some (t s e)
theorem T.Break {pos : Pos} {Q : Flow → Heap → Prop} (q : Q .brk h) : T prog w A (exec (.Break pos) env) h Q := fun s e => wpAny_Break ⟨s.heap, s.toks, rfl, e ▸ q⟩
theorem T.Continue {pos : Pos} {Q : Flow → Heap → Prop} (q : Q .cont h) : T prog w A (exec (.Continue pos) env) h Q := fun s e => wpAny_Continue ⟨s.heap, s.toks, rfl, e ▸ q⟩
theorem T.Expr {e : PySem.Expr} {pos : Pos} {Q : Flow → Heap → Prop} (t : T prog w A (eval e env) h fun v h' => (∀ a, v ≠ .ref a) ∧ Q .next h') (hi : interactive env = false := by rfl) (hs : swapsWith e none pos.line env = Pure.pure false := by rfl) :
    T prog w A (exec (.Expr e pos) env) h Q := fun s e =>
  wpAny_Expr (wpAny_mono (t s e) (by
    rintro v s' ⟨h', tk, rfl, n, y⟩
    cases v with
    | ref a => exact n a rfl
    | _ => exact ⟨_, _, rfl, y⟩) fun _ _ z => z) hi hs
theorem T.cInt {i : Int} {k : Nat} {pos : Pos} {Q : Value → Heap → Prop} (q : ∀ t, Q (.int i t) h) : T prog w A (eval (.Constant (.int i) k pos) env) h Q := fun s e => wpAny_Constant_int ⟨s.heap, s.toks + 1, rfl, e ▸ q _⟩
theorem T.BinOp {a b : PySem.Expr} {op : Operator} {pos : Pos} {Q : Value → Heap → Prop} (t : T prog w A (eval a env) h fun x h₁ => T prog w A (eval b env) h₁ fun y h₂ => T prog w A (binaryOp op x y) h₂ Q) :
    T prog w A (eval (.BinOp a op b pos) env) h Q := fun s e => wpAny_BinOp (wpAny_mono (t s e) (by
    rintro v s' ⟨h', tk, rfl, y⟩
    refine wpAny_mono (y _ rfl) (by
      rintro b s'' ⟨h'', tk', rfl, z⟩
      exact wpAny_mono (z _ rfl) (by rintro b s'' ⟨h'', tk', rfl, z⟩; exact ⟨h'', tk', rfl, z⟩) fun _ _ z => z) fun _ _ z => z) fun _ _ z => z)
theorem T.Compare {a b : PySem.Expr} {op : CmpOp} {pos : Pos} {Q : Value → Heap → Prop} (t : T prog w A (eval a env) h fun x h₁ => T prog w A (eval b env) h₁ fun y h₂ => T prog w A (compareOp op x y) h₂ Q)
    (hm : behindInMarks op b = false := by with_unfolding_all rfl) : T prog w A (eval (.Compare a [op] [b] pos) env) h Q := fun s e => wpAny_Compare1 (wpAny_mono (t s e) (by
    rintro v s' ⟨h', tk, rfl, y⟩
    refine wpAny_mono (y _ rfl) (by
      rintro b s'' ⟨h'', tk', rfl, z⟩
      exact wpAny_mono (z _ rfl) (by rintro b s'' ⟨h'', tk', rfl, z⟩; exact ⟨h'', tk', rfl, z⟩) fun _ _ z => z) fun _ _ z => z) fun _ _ z => z) hm
theorem T.isTrue_Compare {a b : PySem.Expr} {op : CmpOp} {pos : Pos} {whole : Sem Value} {Q : Bool → Heap → Prop} (t : T prog w A (eval a env) h fun x h₁ => T prog w A (eval b env) h₁ fun y h₂ => T prog w A (compareOp op x y) h₂ fun c h₃ => T prog w A (truthy c) h₃ Q)
    (hm : behindInMarks op b = false := by with_unfolding_all rfl) : T prog w A (isTrue (.Compare a [op] [b] pos) env whole) h Q := fun s e => wpAny_isTrue_Compare1 (wpAny_mono (t s e) (by
    rintro v s' ⟨h', tk, rfl, y⟩
    refine wpAny_mono (y _ rfl) (by
      rintro b s'' ⟨h'', tk', rfl, z⟩
      refine wpAny_mono (z _ rfl) (by
        rintro b s'' ⟨h'', tk', rfl, z⟩
        exact wpAny_mono (z _ rfl) (by rintro b s'' ⟨h'', tk', rfl, z⟩; exact ⟨h'', tk', rfl, z⟩) fun _ _ z => z) fun _ _ z => z) fun _ _ z => z) fun _ _ z => z) hm
theorem T.truthy_bool {b : Bool} {Q : Bool → Heap → Prop} (q : Q b h) : T prog w A (truthy (.bool b)) h Q := fun s e => wpAny_truthy_bool ⟨s.heap, s.toks, rfl, e ▸ q⟩
end
end Mine

end
section
open PySem PySem.W PyProof.Rows PySem.Calls
set_option Elab.async false
set_option linter.unusedVariables false
set_option maxRecDepth 100000
namespace Mine
noncomputable def upd (m : Str → Option Value) (x : Str) (v : Value) : Str → Option Value := fun y => if y = x then some v else m y
theorem upd_here {m : Str → Option Value} {x : Str} {v : Value} : upd m x v x = some v := by simp [upd]
theorem upd_next {m : Str → Option Value} {x y : Str} {u : Value} {r : Option Value} (n : y ≠ x) (e : m y = r) : upd m x u y = r := by simp [upd, n, e]
local macro_rules | `(tactic| walk_at "look") => `(tactic| first | assumption | with_reducible exact upd_here | (with_reducible refine upd_next (by decide +kernel) ?_; walk_at "look"))

section
variable {prog : Program} {w : World} {A : Around} {h h' h₀ : Heap} {env : Env} {D : List Addr} {m : Str → Option Value} {l : List (Addr × Obj)}

structure EnvOk (env : Env) : Prop where
  kind : env.scope.kind = .function
  glob : env.globals = mainGlobals
  blt : env.builtins = builtinsNs
  inter : interactive env = false

theorem notTop (e : EnvOk env) : (env.scope.kind == .class || (env.scope.kind == .module && env.locals != env.globals)) = false := by rw [e.kind]; rfl
theorem T.loadName {x : Str} {v : Value} {Q : Value → Heap → Prop} (e : EnvOk env) (H : S h₀ D env.locals m l h) (hv : m x = some v) (q : Q v h) (hl : env.kindOf x = some .local) : T prog w A (loadName env x) h Q :=
  fun s es => by subst es; exact wpAny_loadName_local e.kind hl H.ns hv ⟨s.heap, s.toks, rfl, q⟩
theorem T.Name {x : Str} {pos : Pos} {v : Value} {Q : Value → Heap → Prop} (e : EnvOk env) (H : S h₀ D env.locals m l h) (hv : m x = some v) (q : Q v h) (hl : env.kindOf x = some .local) (hd : (x == ("__debug__" : Str)) = false) :
    T prog w A (eval (.Name x pos) env) h Q := fun s es => wpAny_Name (T.loadName e H hv q hl s es) hd
theorem T.storeName {x : Str} {v : Value} {Q : Unit → Heap → Prop} (e : EnvOk env) (H : S h₀ D env.locals m l h) (q : ∀ h', S h₀ D env.locals (upd m x v) l h' → Q () h') (hl : env.kindOf x = some .local) : T prog w A (storeName env x v) h Q :=
  fun s es => by subst es; exact wpAny_storeName_local hl H.ns (fun h' hn hs => ⟨h', _, rfl, q h' (H.store hn hs)⟩) (notTop e)

structure Gr (K : Frag) (h : Heap) : Prop where
  k : K.In h
  g : ∃ mg, h.Ns mainGlobals mg
  b : ∃ mb, h.Ns builtinsNs mb ∧ ∀ x : Str, x ≠ "__name__" → mb x = bootBuiltins x
  nolimit : h.NoLimit
theorem Gr.sub {K : Frag} (G : Gr K h) (x : Sub [] h h') : Gr K h' where
  k := G.k.keeps x.keep
  g := G.g.imp fun mg n => n.keeps x.keep
  b := G.b.imp fun mb n => ⟨n.1.keeps x.keep, n.2⟩
  nolimit := G.nolimit.keeps x.keep
theorem S.gr {K : Frag} (H : S h₀ [] L m l h) (G : Gr K h₀) : Gr K h := G.sub H.base

theorem T.global {K : Frag} {x : Str} {pos : Pos} {v : Value} {Q : Value → Heap → Prop} (e : EnvOk env) (G : Gr K h) (hv : nsIn K mainGlobals x = some (some v)) (q : Q v h) (hl : env.kindOf x = some .globalImplicit) (hd : (x == ("__debug__" : Str)) = false) :
    T prog w A (eval (.Name x pos) env) h Q := fun s es => by
  subst es
  obtain ⟨mg, hg⟩ := G.g
  exact Name_function_global e.kind hl (loadGlobal_global (e.glob ▸ hg) (mg_of G.k hg hv) ⟨s.heap, s.toks, rfl, q⟩) hd
theorem T.builtin {K : Frag} {x : Str} {pos : Pos} {v : Value} {Q : Value → Heap → Prop} (e : EnvOk env) (G : Gr K h) (hn : nsIn K mainGlobals x = some none) (hv : bootBuiltins x = some v) (q : Q v h) (hl : env.kindOf x = some .globalImplicit) (hd : (x == ("__debug__" : Str)) = false) (hx : x ≠ "__name__") :
    T prog w A (eval (.Name x pos) env) h Q := fun s es => by
  subst es
  obtain ⟨mg, hg⟩ := G.g
  obtain ⟨mb, hb, hbe⟩ := G.b
  exact Name_function_global e.kind hl (loadGlobal_builtin (e.glob ▸ hg) (mg_none_of G.k hg hn) (e.blt ▸ hb) ((hbe x hx).trans hv) ⟨s.heap, s.toks, rfl, q⟩) hd

variable {a b : Int} {t u : Tok}
theorem T.add {Q : Value → Heap → Prop} (q : ∀ t, Q (.int (a + b) t) h) : T prog w A (binaryOp .Add (.int a t) (.int b u)) h Q := fun s es => by subst es; exact PyProof.Rows.add_int ⟨_, _, rfl, q _⟩
theorem T.sub {Q : Value → Heap → Prop} (q : ∀ t, Q (.int (a - b) t) h) : T prog w A (binaryOp .Sub (.int a t) (.int b u)) h Q := fun s es => by subst es; exact PyProof.Rows.sub_int ⟨_, _, rfl, q _⟩
theorem T.mod {Q : Value → Heap → Prop} (hb : b ≠ 0) (q : ∀ t, Q (.int (a.fmod b) t) h) : T prog w A (binaryOp .Mod (.int a t) (.int b u)) h Q := fun s es => by subst es; exact PyProof.Rows.mod_int hb ⟨_, _, rfl, q _⟩
theorem T.iadd {Q : Value → Heap → Prop} (q : ∀ t, Q (.int (a + b) t) h) : T prog w A (inplaceOp .Add (.int a t) (.int b u)) h Q := fun s es => by subst es; exact PyProof.Rows.iadd_int ⟨_, _, rfl, q _⟩
theorem T.lt {Q : Value → Heap → Prop} (q : Q (.bool (decide (a < b))) h) : T prog w A (compareOp .Lt (.int a t) (.int b u)) h Q := fun s es => by subst es; exact PyProof.Rows.lt_int ⟨_, s.toks, rfl, q⟩
theorem T.gt {Q : Value → Heap → Prop} (q : Q (.bool (decide (b < a))) h) : T prog w A (compareOp .Gt (.int a t) (.int b u)) h Q := fun s es => by subst es; exact PyProof.Rows.gt_int ⟨_, s.toks, rfl, q⟩
theorem T.ge {Q : Value → Heap → Prop} (q : Q (.bool (decide (b ≤ a))) h) : T prog w A (compareOp .GtE (.int a t) (.int b u)) h Q := fun s es => by subst es; exact PyProof.Rows.ge_int ⟨_, s.toks, rfl, q⟩
theorem T.eqI {Q : Value → Heap → Prop} (q : Q (.bool (a == b)) h) : T prog w A (compareOp .Eq (.int a t) (.int b u)) h Q := fun s es => by subst es; exact PyProof.Rows.eq_int ⟨_, s.toks, rfl, q⟩
theorem T.neI {Q : Value → Heap → Prop} (q : Q (.bool (a != b)) h) : T prog w A (compareOp .NotEq (.int a t) (.int b u)) h Q := fun s es => by subst es; exact PyProof.Rows.ne_int ⟨_, s.toks, rfl, q⟩
theorem T.cNone {k : Nat} {pos : Pos} {Q : Value → Heap → Prop} (q : Q .none h) : T prog w A (eval (.Constant .none k pos) env) h Q := fun s es => fun _ _ _ => ⟨s.heap, s.toks, rfl, es ▸ q⟩
theorem T.cStr {x : Str} {k : Nat} {pos : Pos} {Q : Value → Heap → Prop} (q : ∀ t, Q (.str x t) h) : T prog w A (eval (.Constant (.str x) k pos) env) h Q := fun s es => Constant_str ⟨s.heap, s.toks + 1, rfl, es ▸ q _⟩
theorem T.cBool {b : Bool} {k : Nat} {pos : Pos} {Q : Value → Heap → Prop} (q : Q (.bool b) h) : T prog w A (eval (.Constant (.bool b) k pos) env) h Q := fun s es => fun _ _ _ => ⟨s.heap, s.toks, rfl, es ▸ q⟩
end
end Mine

end
local macro_rules | `(tactic| walk_at "look") => `(tactic| first | assumption | with_reducible exact Mine.upd_here | (with_reducible refine Mine.upd_next (by decide +kernel) ?_; walk_at "look"))
section
open PySem PySem.W PyProof.Rows PySem.Calls
set_option Elab.async false
set_option linter.unusedVariables false
set_option maxRecDepth 100000
namespace Mine
section
variable {prog : Program} {w : World} {A : Around} {h h' h₀ : Heap} {env : Env} {D : List Addr} {m : Str → Option Value} {l : List (Addr × Obj)}

noncomputable def TF (prog : Program) (w : World) (A : Around) (c : Code) (h : Heap) (Q : Flow → Heap → Prop) : Prop :=
  ∀ s : Shared, s.heap = h → codeAny (model prog w) A c (fun r s' => ∃ f h' tk, r = .ok f ∧ s' = { s with heap := h', toks := tk } ∧ Q f h') s

theorem T.For {target iter : PySem.Expr} {body : List Stmt} {pos : Pos} {Q : Flow → Heap → Prop}
    (x : T prog w A (eval iter env) h fun v h₁ => T prog w A (pyIter v) h₁ fun it h₂ => TF prog w A (.forLoop target it body [] env) h₂ Q)
    (hs : ∀ x, foldedSetIterable iter env x = Pure.pure x := by intro _; rfl) : T prog w A (exec (.For target iter body [] pos) env) h Q := fun s e =>
  wpAny_For (wpAny_mono (x s e) (by
    rintro v s₁ ⟨h₁, t₁, rfl, y⟩
    refine wpAny_mono (y _ rfl) (by
      rintro it s₂ ⟨h₂, t₂, rfl, z⟩
      exact codeAny_mono (z _ rfl) (by rintro r s₃ ⟨f, h₃, t₃, rfl, rfl, q⟩; exact ⟨h₃, t₃, rfl, q⟩)) fun _ _ z => z) fun _ _ z => z) hs

theorem TF.forLoop {target : PySem.Expr} {it : Value} {body : List Stmt} {Q : Flow → Heap → Prop} (I : Nat → Heap → Prop)
    (turn : ∀ n h, I n h → T prog w A (pyNext it) h fun r h₁ => match r with
      | none => Q .next h₁
      | some v => T prog w A (letOwnedTupleGo target it v) h₁ fun _ h₁ => T prog w A (assign target env v) h₁ fun _ h₂ => T prog w A (execs body env) h₂ fun f h₃ => match f with
          | .next | .cont => ∃ m, m < n ∧ I m h₃
          | .brk => Q .next h₃
          | .ret v => Q (.ret v) h₃)
    (n : Nat) (hI : I n h) : TF prog w A (.forLoop target it body [] env) h Q := fun s e => by
  subst e
  refine codeAny_forLoop_any (fun n s' => ∃ h' tk, s' = { s with heap := h', toks := tk } ∧ I n h') ?_ n ⟨s.heap, s.toks, rfl, hI⟩
  rintro n s' ⟨h', tk, rfl, hI⟩
  refine wpAny_mono (turn n h' hI _ rfl) (by
    rintro r s₁ ⟨h₁, t₁, rfl, y⟩
    cases r with
    | none => exact wpAny_execs_nil ⟨_, _, _, rfl, rfl, y⟩
    | some v =>
      refine wpAny_mono (y _ rfl) (by
        rintro _ s₁ ⟨h₁, t₁, rfl, y⟩
        refine wpAny_mono (y _ rfl) (by
          rintro _ s₂ ⟨h₂, t₂, rfl, z⟩
          refine wpAny_mono (z _ rfl) (by
            rintro f s₃ ⟨h₃, t₃, rfl, q⟩
            cases f with
            | next => exact q.imp fun k x => ⟨x.1, h₃, t₃, rfl, x.2⟩
            | cont => exact q.imp fun k x => ⟨x.1, h₃, t₃, rfl, x.2⟩
            | brk => exact ⟨_, _, _, rfl, rfl, q⟩
            | ret v => exact ⟨_, _, _, rfl, rfl, q⟩) fun _ _ z => z.elim) fun _ _ z => z.elim) fun _ _ z => z.elim) fun _ _ z => z.elim

theorem T.While {test : PySem.Expr} {body : List Stmt} {pos : Pos} {Q : Flow → Heap → Prop} (I : Nat → Heap → Prop)
    (turn : ∀ n h, I n h → T prog w A (isTrue test env (eval test env)) h fun b h₁ => if b = true then T prog w A (execs body env) h₁ fun f h₃ => match f with
          | .next | .cont => ∃ m, m < n ∧ I m h₃
          | .brk => Q .next h₃
          | .ret v => Q (.ret v) h₃
        else Q .next h₁)
    (n : Nat) (hI : I n h) : T prog w A (exec (.While test body [] pos) env) h Q := fun s e => by
  subst e
  refine wpAny_While (codeAny_mono (R := fun r s' => ∃ f h' tk, r = .ok f ∧ s' = { s with heap := h', toks := tk } ∧ Q f h') ?_ (by rintro r s₃ ⟨f, h₃, t₃, rfl, rfl, q⟩; exact ⟨h₃, t₃, rfl, q⟩))
  refine codeAny_whileLoop (fun n s' => ∃ h' tk, s' = { s with heap := h', toks := tk } ∧ I n h') ?_ n ⟨s.heap, s.toks, rfl, hI⟩
  rintro n s' ⟨h', tk, rfl, hI⟩
  refine wpAny_mono (turn n h' hI _ rfl) (by
    rintro b s₁ ⟨h₁, t₁, rfl, y⟩
    cases b with
    | false => exact wpAny_execs_nil ⟨_, _, _, rfl, rfl, y⟩
    | true =>
      refine wpAny_mono (y _ rfl) (by
            rintro f s₃ ⟨h₃, t₃, rfl, q⟩
            cases f with
            | next => exact q.imp fun k x => ⟨x.1, h₃, t₃, rfl, x.2⟩
            | cont => exact q.imp fun k x => ⟨x.1, h₃, t₃, rfl, x.2⟩
            | brk => exact ⟨_, _, _, rfl, rfl, q⟩
            | ret v => exact ⟨_, _, _, rfl, rfl, q⟩) fun _ _ z => z.elim) fun _ _ z => z.elim

end
end Mine

end
section
open PySem PySem.W PyProof.Rows PySem.Calls
set_option Elab.async false
set_option linter.unusedVariables false
set_option maxRecDepth 100000
namespace Mine
section
variable {prog : Program} {w : World} {A : Around} {h h' h₀ : Heap} {env : Env} {D : List Addr} {m : Str → Option Value} {l : List (Addr × Obj)}

noncomputable def TArgs (prog : Program) (w : World) (A : Around) (env : Env) : List PySem.Expr → Heap → (List Value → Heap → Prop) → Prop
  | [], h, Q => Q [] h
  | e :: r, h, Q => T prog w A (eval e env) h fun v h₁ => TArgs prog w A env r h₁ fun vs h₂ => Q (v :: vs) h₂
theorem TArgs.mono : ∀ {es : List PySem.Expr} {h : Heap} {Q Q' : List Value → Heap → Prop}, TArgs prog w A env es h Q → (∀ vs h, Q vs h → Q' vs h) → TArgs prog w A env es h Q'
  | [], _, _, _, x, q => q _ _ x
  | _ :: _, _, _, _, x, q => T.mono x fun _ _ y => TArgs.mono y fun _ _ z => q _ _ z

theorem TArgs.wp (hs : ∀ e ∈ es, ∀ v p, e ≠ .Starred v p) {pos : Pos} {Q : List Value → Heap → Prop} (x : TArgs prog w A env es h Q) : T prog w A (spliced (backTo pos (starEach es env))) h Q := by
  induction es generalizing h Q with
  | nil => intro s e; subst e; exact spliced_nil ⟨_, s.toks, rfl, x⟩
  | cons e r ih =>
    have he : starEach (e :: r) env = (false, eval e env) :: starEach r env := by
      cases e <;> first | rfl | exact absurd rfl (hs _ (.head _) _ _)
    rw [he]
    intro s es
    refine spliced_cons (wpAny_mono (T.mono x (fun v h₁ y => ih (fun e he => hs e (.tail _ he)) y) s es) (by
      rintro v s₁ ⟨h₁, t₁, rfl, y⟩
      exact wpAny_mono (y _ rfl) (by rintro vs s₂ ⟨h₂, t₂, rfl, z⟩; exact ⟨h₂, t₂, rfl, z⟩) fun _ _ z => z) fun _ _ z => z)

noncomputable def noStars (es : List PySem.Expr) : Bool := es.all fun e => match e with | .Starred .. => false | _ => true
theorem noStars_of {es : List PySem.Expr} (x : noStars es = true) : ∀ e ∈ es, ∀ v p, e ≠ .Starred v p := fun e he v p q => by
  subst q
  have := List.all_eq_true.mp x _ he
  cases this

noncomputable def Keeps (prog : Program) (w : World) (f : Value) (h : Heap) : Prop := ∃ k, (k = Keeper.frame ∨ k = Keeper.machine ∨ k = Keeper.boundFrame) ∧ Looks (model prog w) h (keeperOf f) k
theorem Keeps.builtin {id : String} : Keeps prog w (.builtin id) h := ⟨_, .inr (.inl rfl), Looks.of_pure rfl⟩
theorem Keeps.type {n : String} : Keeps prog w (.type n) h := ⟨_, .inr (.inl rfl), Looks.of_pure rfl⟩
theorem Keeps.frag {K : Frag} {f : Value} (X : K.In h) (hk : keepIn K f = true) : Keeps prog w f h := keeps_K hk _ X
theorem Keeps.bound {a : Addr} {ob : Obj} {vs : Array Value} (ho : h.get? a = some ob) (hc : ob.cls = .type "builtin_function_or_method") (hd : ob.data = .fields vs) : Keeps prog w (.ref a) h := by
  refine ⟨_, .inr (.inl rfl), ?_⟩
  obtain ⟨c, d, dt, sl⟩ := ob
  cases hc; cases hd
  exact (Looks.ld (part := none) ho).andThen .now

theorem T.callWith {pos : Pos} {f : Value} {first : List Value} {es : List PySem.Expr} {Q : Value → Heap → Prop}
    (x : TArgs prog w A env es h fun vs h₁ => Keeps prog w f h₁ ∧ T prog w A (PySem.call f (first ++ vs)) h₁ Q) (hs : noStars es = true) :
    T prog w A (callWith pos f first (backTo pos (starEach es env)) []) h Q := fun s e => by
  have hplain : ((backTo pos (starEach es env)).any (·.1) || ([] : List (Option Str × Sem Value)).any (·.1.isNone)) = false := by
    have : ∀ es : List PySem.Expr, noStars es = true → (backTo pos (starEach es env)).any (·.1) = false := by
      intro es hs
      induction es with
      | nil => rfl
      | cons e r ih =>
        have he : starEach (e :: r) env = (false, eval e env) :: starEach r env := by
          cases e <;> first | rfl | exact absurd rfl (noStars_of hs _ (.head _) _ _)
        rw [he]
        have hr : noStars r = true := by
          unfold noStars at hs ⊢
          rw [List.all_cons, Bool.and_eq_true] at hs
          exact hs.2
        show (false || (backTo pos (starEach r env)).any (·.1)) = false
        rw [ih hr]; rfl
    rw [this es hs]; rfl
  refine callWith_of (P := fun h => Keeps prog w f h) hplain (fun h k => k) ?_
  cases es with
  | nil =>
    refine evalArgs_nil3 ?_
    subst e
    exact ⟨x.1, wpAny_mono (x.2 s rfl) (by rintro vs s₂ ⟨h₂, t₂, rfl, z⟩; exact ⟨h₂, t₂, rfl, z⟩) fun _ _ z => z⟩
  | cons e₁ r =>
    have he : starEach (e₁ :: r) env = (false, eval e₁ env) :: starEach r env := by
      cases e₁ <;> first | rfl | exact absurd rfl (noStars_of hs _ (.head _) _ _)
    have y := TArgs.wp (pos := pos) (noStars_of hs) x s e
    rw [he] at y ⊢
    refine evalArgs_plain (wpAny_mono y (by
      rintro vs s₁ ⟨h₁, t₁, rfl, k, z⟩
      exact ⟨k, wpAny_mono (z _ rfl) (by rintro vs s₂ ⟨h₂, t₂, rfl, z⟩; exact ⟨h₂, t₂, rfl, z⟩) fun _ _ z => z⟩) fun _ _ z => z)

theorem T.Call_Name {x : Str} {p pos : Pos} {es : List PySem.Expr} {Q : Value → Heap → Prop} (t : T prog w A (eval (.Name x p) env) h fun f h₁ => T prog w A (PySem.callWith pos f [] (backTo pos (starEach es env)) []) h₁ Q) :
    T prog w A (eval (.Call (.Name x p) es [] pos) env) h Q := fun s e => PyProof.Rows.Call_Name rfl (wpAny_mono (t s e) (by
      rintro vs s₁ ⟨h₁, t₁, rfl, z⟩
      exact wpAny_mono (z _ rfl) (by rintro vs s₂ ⟨h₂, t₂, rfl, z⟩; exact ⟨h₂, t₂, rfl, z⟩) fun _ _ z => z) fun _ _ z => z)
theorem T.Call_method {o : PySem.Expr} {name : Str} {apos pos : Pos} {es : List PySem.Expr} {pl : Sem Bool} {Q : Value → Heap → Prop}
    (t : T prog w A (eval o env) h fun ov h₁ => T prog w A (getMethod ov name pl) h₁ fun fx h₂ => T prog w A (PySem.callWith pos fx.1 fx.2 (backTo pos (starEach es env)) []) h₂ Q)
    (he : eval (.Call (.Attribute o name apos) es [] pos) env = (do
      let ov ← eval o env
      PySem.standAt apos.atName
      let (f, first) ← PySem.holding [ov] (getMethod ov name pl)
      PySem.callWith pos f first (backTo pos (starEach es env)) (backToKw pos (keywordEach [] env))) := by rfl) :
    T prog w A (eval (.Call (.Attribute o name apos) es [] pos) env) h Q := fun s e => methodCall_KW (pl := pl) (wpAny_mono (t s e) (by
      rintro ov s₁ ⟨h₁, t₁, rfl, z⟩
      exact wpAny_mono (z _ rfl) (by
        rintro fx s₂ ⟨h₂, t₂, rfl, z⟩
        exact wpAny_mono (z _ rfl) (by rintro vs s₂ ⟨h₂, t₂, rfl, z⟩; exact ⟨h₂, t₂, rfl, z⟩) fun _ _ z => z) fun _ _ z => z) fun _ _ z => z) he
theorem T.Attribute {o : PySem.Expr} {name : Str} {pos : Pos} {Q : Value → Heap → Prop} (t : T prog w A (eval o env) h fun ov h₁ => T prog w A (getAttr ov name true) h₁ Q)
    (he : eval (.Attribute o name pos) env = (do
      let ov ← eval o env
      PySem.standAt pos.atName
      let r ← PySem.holding [ov] (getAttr ov name true)
      letTemporaryGo o ov r
      Pure.pure r) := by with_unfolding_all rfl) : T prog w A (eval (.Attribute o name pos) env) h Q := fun s e => Attribute_any_ (wpAny_mono (t s e) (by
      rintro ov s₁ ⟨h₁, t₁, rfl, z⟩
      exact wpAny_mono (z _ rfl) (by rintro vs s₂ ⟨h₂, t₂, rfl, z⟩; exact ⟨h₂, t₂, rfl, z⟩) fun _ _ z => z) fun _ _ z => z) he

noncomputable def bindM (bs : List (Str × Value)) : Str → Option Value := bs.foldl (fun m p => upd m p.1 p.2) fun _ => none
theorem bindM_eq (bs : List (Str × Value)) : (fun x => bs.reverse.lookup x) = bindM bs := by
  have : ∀ (bs : List (Str × Value)) (m : Str → Option Value), bs.foldl (fun m p => upd m p.1 p.2) m = fun x => (bs.reverse.lookup x).or (m x) := by
    intro bs
    induction bs with
    | nil => intro m; funext x; simp
    | cons p r ih =>
      intro m
      rw [List.foldl_cons, ih]
      funext x
      rw [List.reverse_cons, List.lookup_append]
      cases r.reverse.lookup x with
      | some v => simp
      | none =>
        simp only [Option.none_or, upd, List.lookup]
        by_cases e : x = p.1
        · subst e; simp
        · have : (x == p.1) = false := by simpa using e
          simp [e, this]
  funext x
  unfold bindM
  rw [this]
  simp

theorem TC.fn {f : Addr} {o : Obj} {fd : FuncData} {body : List Stmt} {args : Args} {binds : List (Str × Value)} {Q : Value → Heap → Prop} (lD : List (Addr × Obj))
    (hroom : A.depth < recursionLimit) (ho : h.get? f = some o) (hdata : o.data = .func fd) (hlim : h.NoLimit) (hcd : h.CodeRec fd.code fd.qualname) (hbody : fd.body = .stmts body) (hbind : bindArgs fd args = Pure.pure binds)
    (hcell : ∀ x ∈ fd.scope.names, x.2 ≠ .cell) (hloc : ∀ x ∈ binds, fd.scope.names.lookup x.1 = some .local)
    (hl : ∀ p ∈ lD, h.get? p.1 = some p.2) (nd : (lD.map (·.1)).Nodup)
    (k : ∀ h₁ L, S h (lD.map (·.1)) L (bindM binds) lD h₁ → h.get? L = none → T prog w (A.deeper (callEnv fd L f)) (execs body (callEnv fd L f)) h₁ fun fl h' => Q (match fl with | .ret v => v | _ => .none) h')
    (hco : fd.scope.isCoroutine = false) (hgen : fd.scope.isGenerator = false) (hk : fd.scope.kind = .function) : TC prog w A (.call (.ref f) args) h Q := fun s e => by
  subst e
  refine codeAny_call_def (binds := binds) hroom ho hdata hlim hcd hbody (BindsTo.of_eq hbind) hcell hloc (fun h₁ hns hkeep => ?_) hco hgen hk
  have H : S s.heap (lD.map (·.1)) s.heap.objs.size (bindM binds) lD h₁ := {
    base := fun b o _ e => hkeep b o e
    ns := by rw [← bindM_eq]; exact hns
    led := fun p hp => hkeep _ _ (hl p hp)
    own := fun p hp => .inl (List.mem_map_of_mem hp)
    nodup := nd
    offL := fun q => by
      obtain ⟨p, hp, e⟩ := List.mem_map.mp q
      have := hl p hp
      rw [e, get_size_none] at this; cases this
    newL := get_size_none _
    dl := fun d hd => hd }
  refine wpAny_mono (k h₁ _ H (get_size_none _) _ rfl) (by
    rintro fl s' ⟨h', tk, rfl, q⟩
    exact ⟨_, _, _, rfl, rfl, q⟩) fun _ _ z => z.elim
end
end Mine

end
section
open PySem PySem.W PyProof.Rows PySem.Calls
set_option Elab.async false
set_option linter.unusedVariables false
set_option maxRecDepth 100000
namespace Mine
section
variable {prog : Program} {w : World} {A : Around} {h h' h₀ : Heap} {env : Env} {D : List Addr} {L : Addr} {m m' : Str → Option Value} {l : List (Addr × Obj)}

noncomputable def noHeap : Heap := {}
noncomputable def allBut (h : Heap) (L : Addr) : List (Addr × Obj) := (List.range h.objs.size).filterMap fun a => if a = L then none else (h.get? a).map fun o => (a, o)
theorem mem_allBut {a : Addr} {o : Obj} : (a, o) ∈ allBut h L ↔ a ≠ L ∧ h.get? a = some o := by
  unfold allBut
  rw [List.mem_filterMap]
  constructor
  · rintro ⟨b, _, e⟩
    split at e
    · cases e
    · rename_i n
      obtain ⟨o', e1, e2⟩ := Option.map_eq_some_iff.mp e
      cases e2
      exact ⟨n, e1⟩
  · rintro ⟨n, e⟩
    exact ⟨a, List.mem_range.mpr (Heap.lt_size e), by simp [n, e]⟩
theorem allBut_nodup : ((allBut h L).map (·.1)).Nodup := by
  unfold allBut
  rw [List.map_filterMap]
  have : (List.range h.objs.size).filterMap (fun a => Option.map (·.1) (if a = L then none else (h.get? a).map fun o => (a, o))) = (List.range h.objs.size).filter fun a => decide (a ≠ L) && (h.get? a).isSome := by
    rw [← List.filterMap_eq_filter]
    congr 1
    funext a
    by_cases e : a = L
    · simp [e, Option.guard]
    · cases q : h.get? a <;> simp [e, q, Option.guard]
  rw [this]
  exact (List.nodup_range).sublist List.filter_sublist
theorem noHeap_get (a : Addr) : noHeap.get? a = none := rfl
theorem frAll (hn : h.Ns L m) : Fr noHeap L h m := ⟨hn, fun b o e => absurd e (by rw [noHeap_get]; intro q; cases q), Nat.zero_le _⟩
theorem newsAll : News noHeap L h (allBut h L) := fun p hp => ⟨(mem_allBut.mp hp).2, (mem_allBut.mp hp).1, noHeap_get _⟩
theorem all_split {d : Addr} {o : Obj} (ho : h.get? d = some o) (hd : d ≠ L) : ∃ pre post, allBut h L = pre ++ (d, o) :: post ∧ (∀ p ∈ pre, p.1 ≠ d) ∧ ∀ p ∈ post, p.1 ≠ d := by
  obtain ⟨pre, post, e⟩ := List.append_of_mem (mem_allBut.mpr ⟨hd, ho⟩)
  have nd := allBut_nodup (h := h) (L := L)
  rw [e, List.map_append, List.map_cons] at nd
  have nd2 := List.nodup_append.mp nd
  refine ⟨pre, post, e, fun p hp q => ?_, fun p hp q => ?_⟩
  · exact nd2.2.2 p.1 (List.mem_map_of_mem hp) d (.head _) q
  · have := (List.nodup_cons.mp nd2.2.1).1
    exact this (List.mem_map.mpr ⟨p, hp, q⟩)
theorem sub_of_news {extra : List (Addr × Obj)} (N : News noHeap L h' (extra ++ allBut h L)) : Sub [L] h h' := fun b o n e =>
  (N (b, o) (List.mem_append_right _ (mem_allBut.mpr ⟨by simpa using n, e⟩))).1
theorem sub_of_split {d : Addr} {o o' : Obj} {pre post : List (Addr × Obj)} (e : allBut h L = pre ++ (d, o) :: post) (N : News noHeap L h' (pre ++ (d, o') :: post)) : Sub [L, d] h h' ∧ h'.get? d = some o' :=
  ⟨fun b ob n eb => by
    have hm : (b, ob) ∈ allBut h L := mem_allBut.mpr ⟨fun q => n (by simp [q]), eb⟩
    rw [e] at hm
    refine (N (b, ob) ?_).1
    rcases List.mem_append.mp hm with x | x
    · exact List.mem_append_left _ x
    · rcases List.mem_cons.mp x with x | x
      · exact absurd (by cases x; simp) n
      · exact List.mem_append_right _ (.tail _ x), (N (d, o') (List.mem_append_right _ (.head _))).1⟩

theorem S.frame (H : S h₀ D L m l h) (x : Sub [L] h h') (hn : h'.Ns L m') : S h₀ D L m' l h' where
  base := fun b o n e => x b o (fun q => by
    have q : b = L := by simpa using q
    subst q; rw [H.newL] at e; cases e) (H.base b o n e)
  ns := hn
  led := fun p hp => x _ _ (fun q => H.offL (by
    have q : p.1 = L := by simpa using q
    exact List.mem_map.mpr ⟨p, hp, q⟩)) (H.led p hp)
  own := H.own
  nodup := H.nodup
  offL := H.offL
  newL := H.newL
  dl := H.dl
theorem S.frameUpd {d : Addr} {o o' : Obj} (H : S h₀ D L m l h) (i : Nat) (hi : l[i]? = some (d, o)) (x : Sub [L, d] h h') (ho : h'.get? d = some o') (hn : h'.Ns L m') : S h₀ D L m' (l.set i (d, o')) h' := by
  have H' := H.upd (h' := h') (o' := o') i hi
  have hdL : d ≠ L := fun q => H.offL (q ▸ List.mem_map.mpr ⟨_, List.mem_of_getElem? hi, rfl⟩)
  have e : (l.set i (d, o')).map (·.1) = l.map (·.1) := by
    rw [List.map_set]
    refine List.ext_getElem (by first | walk_at "mem" | simp) fun j h1 h2 => ?_
    rw [List.getElem_set]
    split
    · rename_i e; subst e
      have hi' : i < l.length := by simpa using h2
      rw [List.getElem?_eq_getElem hi'] at hi
      have := Option.some.inj hi
      simp [this]
    · rfl
  refine { base := fun b ob n eb => ?_, ns := hn, led := fun p hp => ?_, own := fun p hp => ?_, nodup := e ▸ H.nodup, offL := e ▸ H.offL, newL := H.newL, dl := e ▸ H.dl }
  · refine x b ob (fun q => ?_) (H.base b ob n eb)
    rcases List.mem_cons.mp q with q | q
    · subst q; rw [H.newL] at eb; cases eb
    · obtain rfl : b = d := by simpa using q
      rcases H.own (b, o) (List.mem_of_getElem? hi) with y | y
      · exact n y
      · rw [y] at eb; cases eb
  · obtain ⟨j, hj, rfl⟩ := List.getElem_of_mem hp
    rw [List.getElem_set] at *
    rw [List.length_set] at hj
    split
    · exact ho
    · rename_i ne
      refine x _ _ (fun q => ?_) (H.led _ (List.getElem_mem hj))
      rcases List.mem_cons.mp q with q | q
      · exact H.offL (q ▸ List.mem_map_of_mem (List.getElem_mem hj))
      · have hi' : i < l.length := by
          rcases Nat.lt_or_ge i l.length with y | y
          · exact y
          · rw [List.getElem?_eq_none y] at hi; cases hi
        have e1 : l[i] = (d, o) := by rw [List.getElem?_eq_getElem hi'] at hi; exact Option.some.inj hi
        have e2 : l[j].1 = d := by simpa using q
        have nd := List.pairwise_iff_getElem.mp H.nodup
        rcases Nat.lt_trichotomy i j with y | y | y
        · exact nd i j (by simpa using hi') (by simpa using hj) y (by simp [e1, e2])
        · exact ne y
        · exact nd j i (by simpa using hj) (by simpa using hi') y (by simp [e1, e2])
  · rcases List.mem_or_eq_of_mem_set hp with y | y
    · exact H.own p y
    · subst y; exact H.own (d, o) (List.mem_of_getElem? hi)

noncomputable def keyS : Value → Str
  | .str s _ => s
  | _ => Str.empty
noncomputable def IsAttrs (N : List Str) (od : Obj) (am : Str → Option Value) : Prop :=
  ∃ es n, od = dictOf es n ∧ (∀ x, (es.find? (·.key.isStr x)).map (·.val) = am x) ∧ (∀ e ∈ es, ∃ s ∈ N, ∃ t, e.key = .str s t) ∧ (es.map fun e => keyS e.key).Nodup
theorem IsAttrs.nil {N : List Str} : IsAttrs N (dictOf [] 0) fun _ => none := ⟨[], 0, rfl, fun _ => rfl, fun e he => (nomatch he), .nil⟩
theorem noRef {N : List Str} {es : List DictEntry} (hk : ∀ e ∈ es, ∃ s ∈ N, ∃ t, e.key = .str s t) : es.any (·.refKey) = false := by
  rw [List.any_eq_false]
  intro e he
  obtain ⟨s, _, t, e1⟩ := hk e he
  simp [DictEntry.refKey, e1]
theorem getL_of {N : List Str} {es : List DictEntry} {am : Str → Option Value} (hk : ∀ e ∈ es, ∃ s ∈ N, ∃ t, e.key = .str s t) (hf : ∀ x, (es.find? (·.key.isStr x)).map (·.val) = am x) (x : Str) : getL x es = some (am x) := by
  unfold getL
  have := hf x
  cases e : es.find? (·.key.isStr x) with
  | some en => rw [e] at this; simp only [Option.map_some] at this; rw [← this]
  | none => rw [e] at this; simp only [Option.map_none] at this; rw [← this, noRef hk]; rfl
theorem length_le_of_nodup : ∀ {l N : List Str}, l.Nodup → (∀ x ∈ l, x ∈ N) → l.length ≤ N.length
  | [], _, _, _ => Nat.zero_le _
  | a :: l, N, hn, hs => by
    have h1 := (List.nodup_cons.mp hn)
    have ha := hs a (.head _)
    have := length_le_of_nodup (l := l) (N := N.erase a) h1.2 fun x hx => by
      have ne : x ≠ a := fun q => h1.1 (by rw [← q]; exact hx)
      exact (List.mem_erase_of_ne ne).mpr (hs x (.tail _ hx))
    rw [List.length_erase_of_mem ha] at this
    have hp : 0 < N.length := List.length_pos_of_mem ha
    rw [List.length_cons]; (first | lia | omega)
theorem attrs_len {N : List Str} {es : List DictEntry} (hk : ∀ e ∈ es, ∃ s ∈ N, ∃ t, e.key = .str s t) (hn : (es.map fun e => keyS e.key).Nodup) : es.length ≤ N.length := by
  have := length_le_of_nodup hn (N := N) fun x hx => by
    obtain ⟨e, he, rfl⟩ := List.mem_map.mp hx
    obtain ⟨s, hs, t, e1⟩ := hk e he
    rw [e1]; exact hs
  simpa using this
theorem isStr_iff {N : List Str} {e : DictEntry} (hk : ∃ s ∈ N, ∃ t, e.key = .str s t) (x : Str) : e.key.isStr x = decide (keyS e.key = x) := by
  obtain ⟨s, _, t, e1⟩ := hk
  rw [e1]
  by_cases q : s = x
  · simp [Value.isStr, keyS, q]
  · simp [Value.isStr, keyS, q]
theorem attrs_put {N : List Str} {x : Str} {hs : Int} {v : Value} {t : Tok} (hx : x ∈ N) : ∀ {es : List DictEntry} {am : Str → Option Value}, (∀ x, (es.find? (·.key.isStr x)).map (·.val) = am x) → (∀ e ∈ es, ∃ s ∈ N, ∃ t, e.key = .str s t) → (es.map fun e => keyS e.key).Nodup →
    (∀ y, ((putL x hs (.str x t) v es).find? (·.key.isStr y)).map (·.val) = upd am x v y) ∧ (∀ e ∈ putL x hs (.str x t) v es, ∃ s ∈ N, ∃ t, e.key = .str s t) ∧ ((putL x hs (.str x t) v es).map fun e => keyS e.key).Nodup ∧ (∀ y, y ∈ (putL x hs (.str x t) v es).map (fun e => keyS e.key) ↔ y = x ∨ y ∈ es.map fun e => keyS e.key)
  | [], am, hf, _, _ => by
    refine ⟨fun y => ?_, fun e he => ?_, ?_, ?_⟩
    · have := hf y
      by_cases e : y = x
      · subst e; simp [putL, Value.isStr, upd]
      · have n : (x == y) = false := by simpa using fun q => e q.symm
        simp only [List.find?_nil, Option.map_none] at this
        simp [putL, Value.isStr, upd, e, n, ← this]
    · simp only [putL, List.mem_singleton] at he; subst he; exact ⟨x, hx, t, rfl⟩
    · simp [putL]
    · intro y; simp [putL, keyS]
  | en :: r, am, hf, hk, hn => by
    have hke := hk en (.head _)
    unfold putL
    cases q : en.key.isStr x with
    | true =>
      have hxe : keyS en.key = x := by have := isStr_iff hke x; rw [q] at this; exact of_decide_eq_true this.symm
      simp only [if_true]
      refine ⟨fun y => ?_, fun e he => ?_, hn, ?_⟩
      · by_cases e : y = x
        · subst e; simp [q, upd]
        · have n : en.key.isStr y = false := by rw [isStr_iff hke, hxe]; exact decide_eq_false fun z => e z.symm
          have := hf y
          rw [List.find?_cons, n] at this
          simp only [List.find?_cons, n, upd, if_neg e]
          exact this
      · rcases List.mem_cons.mp he with he | he
        · subst he; exact hke
        · exact hk e (.tail _ he)
      · intro y; simp [hxe]
    | false =>
      have hxe : keyS en.key ≠ x := by have := isStr_iff hke x; rw [q] at this; exact of_decide_eq_false this.symm
      simp only [Bool.false_eq_true, if_false]
      rw [List.map_cons, List.nodup_cons] at hn
      obtain ⟨i1, i2, i3, i4⟩ := attrs_put hx (es := r) (am := fun y => (r.find? (·.key.isStr y)).map (·.val)) (hs := hs) (v := v) (t := t) (fun _ => rfl) (fun e he => hk e (.tail _ he)) hn.2
      refine ⟨fun y => ?_, fun e he => ?_, ?_, ?_⟩
      · have := hf y
        rw [List.find?_cons] at this ⊢
        cases n : en.key.isStr y with
        | true =>
          rw [n] at this
          have e : y ≠ x := fun z => by subst z; rw [q] at n; cases n
          simp only [upd, if_neg e]
          exact this
        | false =>
          rw [n] at this
          have j := i1 y
          simp only [upd] at j ⊢
          rw [this] at j
          exact j
      · rcases List.mem_cons.mp he with he | he
        · subst he; exact hke
        · exact i2 e he
      · rw [List.map_cons, List.nodup_cons]
        refine ⟨fun z => ?_, i3⟩
        rcases (i4 _).mp z with z | z
        · exact hxe z
        · exact hn.1 z
      · intro y
        rw [List.map_cons, List.map_cons, List.mem_cons, List.mem_cons, i4]
        constructor
        · rintro (z | z | z)
          · exact .inr (.inl z)
          · exact .inl z
          · exact .inr (.inr z)
        · rintro (z | z | z)
          · exact .inr (.inl z)
          · exact .inl z
          · exact .inr (.inr z)
end
end Mine

end
section
open PySem PySem.W PyProof.Rows PySem.Calls
set_option Elab.async false
set_option linter.unusedVariables false
set_option maxRecDepth 100000
namespace Mine
section
variable {prog : Program} {w : World} {A : Around} {h h' h₀ : Heap} {env : Env} {D : List Addr} {L : Addr} {m m' : Str → Option Value} {l : List (Addr × Obj)} {K : Frag} {C x dx : Addr} {od : Obj} {am : Str → Option Value} {N : List Str}

structure Plain (K : Frag) (C : Addr) : Prop where
  ga : findIn K (.ref C) "__getattribute__" = some (some (.builtin "object.__getattribute__"))
  gt : findIn K (.ref C) "__getattr__" = some none
  sa : findIn K (.ref C) "__setattr__" = some (some (.builtin "object.__setattr__"))
  over : plainOver K C = true
  hd : hasDictIn K C = true

structure Inst (h : Heap) (x C dx : Addr) (od : Obj) : Prop where
  ob : h.get? x = some (instObj C dx)
  dict : h.get? dx = some od
theorem Inst.at (I : Inst h x C dx od) : InstAt h x (instObj C dx) C (some od) := ⟨I.ob, rfl, rfl, I.dict⟩

theorem T.getAttr {name : Str} {v : Value} {e : Bool} {Q : Value → Heap → Prop} (P : Plain K C) (X : K.In h) (I : Inst h x C dx od) (ia : IsAttrs N od am) (hv : am name = some v) (hc : findIn K (.ref C) name = some none) (hh : handedIn v = true)
    (q : Q v h) : T prog w A (getAttr (.ref x) name e) h Q := fun s es => by
  subst es
  obtain ⟨es, n, rfl, hf, hk, hnd⟩ := ia
  have hg := getL_of hk hf
  exact get_value X I.at P.ga (findObj_own P.hd hc rfl (by rw [lookIn_dict, hg, hv])) hh ⟨_, _, rfl, q⟩
theorem T.getMeth {name : Str} {f : Addr} {pl : Sem Bool} {Q : Value × List Value → Heap → Prop} (P : Plain K C) (X : K.In h) (I : Inst h x C dx od) (ia : IsAttrs N od am) (hv : am name = none) (hf : findIn K (.ref C) name = some (some (.ref f))) (ht : typeIn K (.ref f) = some (.type "function"))
    (q : Q (.ref f, [.ref x]) h) : T prog w A (getMethod (.ref x) name pl) h Q := fun s es => by
  subst es
  obtain ⟨es, n, rfl, hff, hk, hnd⟩ := ia
  have hg := getL_of hk hff
  refine method_fn X I.at P.ga P.gt hf ht ?_ ⟨_, s.toks, rfl, q⟩
  show (lookIn name (dictOf es n)).map _ = _
  rw [lookIn_dict, hg, hv]; rfl
theorem T.setAttr {name : Str} {v : Value} {Q : Unit → Heap → Prop} (P : Plain K C) (X : K.In h) (H : S h₀ D L m l h) (i : Nat) (hi : l[i]? = some (dx, od)) (ho : h.get? x = some (instObj C dx)) (ia : IsAttrs N od am) (hc : takerIn K C name = some none) 
    (q : ∀ h' od', S h₀ D L m (l.set i (dx, od')) h' → h'.get? x = some (instObj C dx) → IsAttrs N od' (upd am name v) → (∀ b o, b ≠ L → b ≠ dx → h.get? b = some o → h'.get? b = some o) → Q () h') (hN : name ∈ N) (hz : N.length ≤ 1000) : T prog w A (setAttr (.ref x) name v) h Q := fun s es => by
  subst es
  obtain ⟨es, n, rfl, hf, hk, hnd⟩ := ia
  have hg := getL_of hk hf
  have hdx : s.heap.get? dx = some (dictOf es n) := H.get (List.mem_of_getElem? hi)
  have hdL : dx ≠ L := fun q => H.offL (q ▸ List.mem_map.mpr ⟨_, List.mem_of_getElem? hi, rfl⟩)
  have hxL : x ≠ L := fun q => by
    obtain ⟨oL, es', ep, hL, hd, _⟩ := H.ns
    rw [← q, ho] at hL
    cases hL
    cases hd
  have hxd : x ≠ dx := fun q => by
    rw [q, hdx] at ho
    cases ho
  obtain ⟨pre, post, e, n1, n2⟩ := all_split hdx hdL
  have I : InstAt s.heap x (instObj C dx) C (some (dictOf es n)) := ⟨ho, rfl, rfl, hdx⟩
  refine set_plain X I P.sa (osa_dict (s := { s with toks := s.toks + 1 }) (pre := pre) (post := post) (es := putL name (PyData.keyHash w.params name) (.str name (s.toks + 1)) v es) (n := putN name es n) (frAll H.ns) (e ▸ newsAll) X I rfl P.over hc P.hd ?_ n1 n2 (putName_dict ..) rfl ?_ fun h' F' N' => ?_)
  · rw [lookIn_dict, hg]; rfl
  · obtain ⟨_, i2, i3, _⟩ := attrs_put (hs := PyData.keyHash w.params name) (v := v) (t := s.toks + 1) hN hf hk hnd
    exact Nat.le_trans (attrs_len i2 i3) hz
  · obtain ⟨s1, s2⟩ := sub_of_split e N'
    obtain ⟨i1, i2, i3, _⟩ := attrs_put (hs := PyData.keyHash w.params name) (v := v) (t := s.toks + 1) hN hf hk hnd
    exact ⟨h', _, rfl, q h' _ (H.frameUpd i hi s1 s2 F'.ns) (s1 _ _ (by simp [hxL, hxd]) ho) ⟨_, _, rfl, i1, i2, i3⟩ fun b o nL nd eb => s1 b o (by simp [nL, nd]) eb⟩

theorem TC.make {rest : List Value} {fI : Addr} {Q : Value → Heap → Prop} (X : K.In h) (hm : makesIn K C = true) (hi : findIn K (.ref C) "__init__" = some (some (.ref fI))) (hf : typeIn K (.ref fI) = some (.type "function")) (hn : h.Ns L m)
    (q : ∀ x dx h', Sub [L] h h' → h'.Ns L m → h'.get? x = some (instObj C dx) → h'.get? dx = some (dictOf [] 0) → h.get? x = none → h.get? dx = none →
      TC prog w (A.under (.builtin "type.__call__" ⟨.ref C :: rest, []⟩)) (.call (.ref fI) ⟨.ref x :: rest, []⟩) h' fun v h'' => v = .none ∧ Q (.ref x) h'') : TC prog w A (.call (.ref C) ⟨rest, []⟩) h Q := fun s es => by
  subst es
  refine make_K (frAll hn) newsAll X hm hi hf fun x dx h' F' N' lt1 lt2 => ?_
  have hdx : s.heap.get? dx = none := by
    cases e : s.heap.get? dx with
    | none => rfl
    | some o =>
      by_cases hL : dx = L
      · have := (N' (dx, _) (.tail _ (.head _))).2.1
        exact absurd hL this
      · exact absurd (lt1 (dx, o) (mem_allBut.mpr ⟨hL, e⟩)) (Nat.lt_irrefl _)
  have hx : s.heap.get? x = none := by
    cases e : s.heap.get? x with
    | none => rfl
    | some o =>
      by_cases hL : x = L
      · exact absurd hL (N' (x, _) (.head _)).2.1
      · have := lt1 (x, o) (mem_allBut.mpr ⟨hL, e⟩)
        exact absurd this (Nat.lt_asymm lt2)
  refine codeAny_mono (q x dx h' (sub_of_news (extra := [_, _]) N') F'.ns (N' _ (.head _)).1 (N' _ (.tail _ (.head _))).1 hx hdx _ rfl) ?_
  rintro r s' ⟨v, h'', tk, rfl, rfl, e, z⟩
  exact ⟨e, _, _, _, rfl, rfl, z⟩
end
end Mine

end
section
open PySem PySem.W PyProof.Rows PySem.Calls
set_option Elab.async false
set_option linter.unusedVariables false
set_option maxRecDepth 100000
namespace Mine
section
variable {prog : Program} {w : World} {A : Around} {h h' h₀ : Heap} {env : Env} {D : List Addr} {L : Addr} {m m' : Str → Option Value} {l : List (Addr × Obj)}

noncomputable def IsLst (o : Obj) (vs : List Value) : Prop := ∃ n, o = { cls := .type "list", data := .seq vs.toArray n }
noncomputable def IsTupO (o : Obj) (vs : List Value) : Prop := ∃ n, o = { cls := .type "tuple", data := .seq vs.toArray n }
noncomputable abbrev IsDic (prog : Program) (w : World) (o : Obj) (kvs : List (Int × Value)) : Prop := o.IsDictOf (intKind prog w) kvs

theorem t_Dict0 {pos : Pos} {Q : Value → Heap → Prop} (q : ∀ a h' o, Sub [] h h' → h.get? a = none → h'.get? a = some o → IsDic prog w o [] → Q (.ref a) h') : T prog w A (eval (.Dict [] [] pos) env) h Q := fun s es => by
  subst es
  refine wpAny_Dict_empty ⟨_, s.toks, rfl, q _ _ _ (Sub.push _ _) (get_size_none _) (get_push_self _ _) ?_⟩
  exact ⟨#[], 0, ⟨rfl, rfl, rfl⟩, rfl, fun _ he => by simp at he, .nil, .nil⟩
theorem t_List {elts : List PySem.Expr} {pos : Pos} {Q : Value → Heap → Prop} (x : TArgs prog w A env elts h fun vs h₁ => vs.length ≤ sizeLine ∧ ∀ a h' o, Sub [] h₁ h' → h₁.get? a = none → h'.get? a = some o → IsLst o vs → Q (.ref a) h') (hs : noStars elts = true) :
    T prog w A (eval (.List elts pos) env) h Q := fun s es => List_ (wpAny_mono (TArgs.wp (noStars_of hs) x s es) (by
      rintro vs s₁ ⟨h₁, t₁, rfl, hsz, q⟩
      exact wpAny_newObj_type (dict := none) ⟨_, _, rfl, q _ _ _ (Sub.push _ _) (get_size_none _) (get_push_self _ _) ⟨0, rfl⟩⟩ (by show vs.toArray.size ≤ sizeLine; simpa using hsz)) fun _ _ z => z)
theorem t_Tuple {elts : List PySem.Expr} {k : Nat} {pos : Pos} {Q : Value → Heap → Prop} (x : TArgs prog w A env elts h fun vs h₁ => vs.length ≤ sizeLine ∧ ∀ a h' o, Sub [] h₁ h' → h₁.get? a = none → h'.get? a = some o → IsTupO o vs → Q (.ref a) h') (hs : noStars elts = true) :
    T prog w A (eval (.Tuple elts k pos) env) h Q := fun s es => Tuple_ (wpAny_mono (TArgs.wp (noStars_of hs) x s es) (by
      rintro vs s₁ ⟨h₁, t₁, rfl, hsz, q⟩
      exact wpAny_newObj_type (dict := none) ⟨_, _, rfl, q _ _ _ (Sub.push _ _) (get_size_none _) (get_push_self _ _) ⟨0, rfl⟩⟩ (by show vs.toArray.size ≤ sizeLine; simpa using hsz)) fun _ _ z => z)

theorem dicOf {d : Addr} {o : Obj} {kvs : List (Int × Value)} (ho : h.get? d = some o) (hd : IsDic prog w o kvs) : h.DictOf (intKind prog w) d kvs := Heap.dictOf_iff.mpr ⟨o, ho, hd⟩
theorem t_dict_get {d : Addr} {o : Obj} {kvs : List (Int × Value)} {k : Int} {t : Tok} {dflt : Value} {Q : Value → Heap → Prop} (ho : h.get? d = some o) (hd : IsDic prog w o kvs) (lo : (d == sysModules) = false) (q : Q ((valueAt kvs k).getD dflt) h) :
    T prog w A (PySem.call (.builtin "dict.get") [.ref d, .int k t, dflt]) h Q := fun s es => by
  subst es
  have hD := dicOf (prog := prog) (w := w) ho hd
  exact call_meetsIn PySem.F.slot_dict_get hD.typeIs PySem.F.entry_dict_get (PySem.F.args_dict_get_3 _ _ _) (meets_dict_get_default (intKind prog w) d (intKind_is prog w k t) lo dflt) ⟨_, hD.mapOf, ⟨_, _, rfl, q⟩⟩
theorem t_dict_set {d : Addr} {o : Obj} {kvs : List (Int × Value)} {k : Int} {t : Tok} {v : Value} {Q : Unit → Heap → Prop} (ho : h.get? d = some o) (hd : IsDic prog w o kvs) (hsz : kvs.length ≤ sizeLine)
    (q : ∀ h' o', Sub [d] h h' → h'.get? d = some o' → IsDic prog w o' (stored kvs k v) → Q () h') : T prog w A (setItem (.ref d) (.int k t) v) h Q := fun s es => by
  subst es
  refine wpAny_setItem_pairs (hsz := hsz) (intKind_is prog w k t) (dicOf ho hd) fun h' hm hs => ?_
  obtain ⟨o', ho', hd'⟩ := Heap.dictOf_iff.mp hm
  exact ⟨h', _, rfl, q h' o' (Sub.same hs) ho' hd'⟩
theorem wp_setdefault {s : Shared} {E : Value → Shared → Prop} {d : Addr} {kvs : List (Int × Value)} {k : Int} {t : Tok} {dflt : Value} {Q : Value → Shared → Prop} (hm : s.heap.DictOf (intKind prog w) d kvs)
    (hthere : ∀ v, valueAt kvs k = some v → Q v { s with toks := s.toks + 1 })
    (hnew : valueAt kvs k = none → ∀ h', h'.DictOf (intKind prog w) d (kvs ++ [(k, dflt)]) → Heap.SameBut d s.heap h' → Q dflt { s with heap := h', toks := s.toks + 1 })
    (hsz : kvs.length ≤ sizeLine) : wpAny (model prog w) A (dictSetDefault d (.int k t) dflt) Q E s := by
  have hkey := intKind_is prog w k t
  obtain ⟨o, es, ep, ho, hc, hd, hk, hp, hn⟩ := hm
  have hes : es.size ≤ sizeLine := by
    have e1 := hp.length
    have e2 : es.toList.length = es.size := by simp
    (first | lia | omega)
  unfold dictSetDefault
  try with_reducible refine wpAny_holding ?_
  refine wpAny_bind ((intKind prog w).pyHash hkey ?_)
  refine wpAny_bind (wpAny_dictFind_of (s := { s with toks := s.toks + 1 }) hkey ho hd hk ?_)
  have hidx : (es.findIdx? fun e => (intKind prog w).is k e.key) = kvs.findIdx? fun kv => decide (kv.1 = k) := by
    rw [← hp.findIdx k]; obtain ⟨l⟩ := es; simp
  have hfind := hp.find k
  cases hi : es.findIdx? fun e => (intKind prog w).is k e.key with
  | some i =>
    refine wpAny_bind (wpAny_dictEntries (s := { s with toks := s.toks + 1 }) ho hd ?_)
    obtain ⟨hlt, hp1, hp2⟩ := Array.findIdx?_eq_some_iff_getElem.mp hi
    rw [Array.getElem?_eq_getElem hlt]
    refine wpAny_bind (wpAny_rule (wpAny_pure (hthere _ ?_)))
    rw [← hfind]
    have : es.toList.find? (fun e => (intKind prog w).is k e.key) = some es[i] := by
      rw [List.find?_eq_some_iff_getElem]
      exact ⟨hp1, i, by simpa using hlt, by simp, fun j hj => by
        have := hp2 j hj
        simpa using this⟩
    rw [this]; rfl
  | none =>
    have hnot : k ∉ kvs.map (·.1) := not_mem_of_findIdx_none (hidx ▸ hi)
    have hnone : valueAt kvs k = none := by
      unfold valueAt
      rw [List.find?_eq_none.mpr fun kv hkv he => hnot (List.mem_map.mpr ⟨kv, hkv, of_decide_eq_true he⟩)]; rfl
    refine wpAny_bind (wpAny_rule (wpAny_bind (wpAny_updateDictKeys (hz := hes) (s := { s with toks := s.toks + 1 }) ho hd (wpAny_pure (hnew hnone _ ⟨_, _, ep + 1, Heap.get?_update_self _ ho (Obj.isFreed_of_dict (Obj.data_mapDictKeys hd _)),
      hc.mapDictKeys _, Obj.data_mapDictKeys hd _, hk.push hkey _, ?_, ?_⟩ (Heap.SameBut.update ..))))))
    · have := hp.append hkey ((intKind prog w).hash k) dflt
      obtain ⟨l⟩ := es
      simpa using this
    · rw [List.map_append, List.nodup_append]
      refine ⟨hn, by simp, ?_⟩
      intro a ha b hb
      simp only [List.map_cons, List.map_nil, List.mem_singleton] at hb
      subst hb
      exact fun e => hnot (e ▸ ha)
theorem t_setdefault {d : Addr} {o : Obj} {kvs : List (Int × Value)} {k : Int} {t : Tok} {dflt : Value} {Q : Value → Heap → Prop} (ho : h.get? d = some o) (hd : IsDic prog w o kvs) (lo : (d == sysModules) = false) (hsz : kvs.length ≤ sizeLine)
    (q1 : ∀ v, valueAt kvs k = some v → Q v h) (q2 : valueAt kvs k = none → ∀ h' o', Sub [d] h h' → h'.get? d = some o' → IsDic prog w o' (kvs ++ [(k, dflt)]) → Q dflt h') :
    T prog w A (PySem.call (.builtin "dict.setdefault") [.ref d, .int k t, dflt]) h Q := fun s es => by
  subst es
  have hD := dicOf (prog := prog) (w := w) ho hd
  refine wpAny_call_entry PySem.F.slot_dict_setdefault hD.typeIs PySem.F.entry_dict_setdefault ?_ (PySem.F.args_dict_setdefault_3 _ _ _)
  unfold Builtin.«dict.setdefault»
  refine wpAny_bind ?_
  unfold Builtin.Dict.keyAndDefault
  refine wpAny_bind (wpAny_notOrdered_dict hD.typeIs ?_)
  show wpAny _ _ (Pure.pure (d, (Value.int k t), some dflt)) _ _ s
  refine wpAny_pure ?_
  show wpAny _ _ (if (d == sysModules) = true then _ else (dictSetDefault d (.int k t) dflt >>= _)) _ _ s
  rw [if_neg (by rw [lo]; exact Bool.false_ne_true)]
  refine wpAny_bind (wp_setdefault (hsz := hsz) hD (fun v hv => wpAny_pure ⟨v, rfl, _, _, rfl, q1 v hv⟩) fun hn h' hm hs => wpAny_pure ⟨dflt, rfl, ?_⟩)
  obtain ⟨o', ho', hd'⟩ := Heap.dictOf_iff.mp hm
  exact ⟨_, _, rfl, q2 hn h' o' (Sub.same hs) ho' hd'⟩

theorem IsLst.isList {a : Addr} {o : Obj} {vs : List Value} (ho : h.get? a = some o) (x : IsLst o vs) : h.IsList a vs.toArray := let ⟨n, e⟩ := x; ⟨o, ho, by rw [e], n, by rw [e]⟩
theorem t_append {a : Addr} {o : Obj} {vs : List Value} {v : Value} {Q : Value → Heap → Prop} (ho : h.get? a = some o) (hl : IsLst o vs) (hsz : vs.length ≤ sizeLine)
    (q : ∀ h' o', Sub [a] h h' → h'.get? a = some o' → IsLst o' (vs ++ [v]) → Q .none h') : T prog w A (PySem.call (.builtin "list.append") [.ref a, v]) h Q := fun s es => by
  subst es
  obtain ⟨n, rfl⟩ := hl
  refine wpAny_list_append_plain (items := vs.toArray) ⟨n, ho⟩ (fun h' hp hs => ?_) (by simpa using hsz)
  obtain ⟨n', ho'⟩ := hp
  exact ⟨h', s.toks, rfl, q h' _ (Sub.same hs) ho' ⟨n', by simp⟩⟩
end
end Mine

end
section
open PySem PySem.W PyProof.Rows PySem.Calls
set_option Elab.async false
set_option linter.unusedVariables false
set_option maxRecDepth 100000
namespace Mine
section
variable {prog : Program} {w : World} {A : Around} {h h' h₀ : Heap} {env : Env} {D : List Addr} {L : Addr} {m m' : Str → Option Value} {l l' : List (Addr × Obj)}

theorem S.perm (H : S h₀ D L m l h) (p : l.Perm l') : S h₀ D L m l' h where
  base := H.base
  ns := H.ns
  led := fun q hq => H.led q (p.mem_iff.mpr hq)
  own := fun q hq => H.own q (p.mem_iff.mpr hq)
  nodup := (p.map _).nodup_iff.mp H.nodup
  offL := fun q => H.offL ((p.map _).mem_iff.mpr q)
  newL := H.newL
  dl := fun d hd => (p.map _).mem_iff.mp (H.dl d hd)
theorem S.addEnd {a : Addr} {o : Obj} (H : S h₀ D L m l h) (x : Sub [] h h') (hn : h.get? a = none) (ho : h'.get? a = some o) : S h₀ D L m (l ++ [(a, o)]) h' := (H.add x hn ho).perm (List.perm_append_singleton _ _).symm
theorem S.updEnd {a : Addr} {o o' : Obj} (H : S h₀ D L m (l ++ [(a, o)]) h) (x : Sub [a] h h') (ho : h'.get? a = some o') : S h₀ D L m (l ++ [(a, o')]) h' := by
  have := H.upd (o := o) l.length (by first | walk_at "mem" | simp) x ho
  simpa using this
theorem S.dropEnd {l₂ : List (Addr × Obj)} (H : S h₀ D L m (l ++ l₂) h) (hd : ∀ d ∈ D, d ∈ l.map (·.1)) : S h₀ D L m l h := H.drop (List.sublist_append_left _ _) hd
theorem S.getEnd {a : Addr} {o : Obj} (H : S h₀ D L m (l ++ [(a, o)]) h) : h.get? a = some o := H.get (by first | walk_at "mem" | simp)
theorem S.offEnd {a : Addr} {o : Obj} (H : S h₀ D L m (l ++ [(a, o)]) h) : ∀ p ∈ l, p.1 ≠ a := fun p hp q => by
  have := H.nodup
  rw [List.map_append, List.nodup_append] at this
  exact this.2.2 p.1 (List.mem_map_of_mem hp) a (by first | walk_at "mem" | simp) q

theorem t_assignName {x : Str} {px : Pos} {v : Value} {Q : Unit → Heap → Prop} (e : EnvOk env) (H : S h₀ D env.locals m l h) (q : ∀ h', S h₀ D env.locals (upd m x v) l h' → Q () h') (hl : env.kindOf x = some .local) : T prog w A (assign (.Name x px) env v) h Q :=
  fun s es => wpAny_assign_Name (T.storeName e H q hl s es)
noncomputable def updAll (m : Str → Option Value) : List Str → List Value → Str → Option Value
  | x :: xs, v :: vs => updAll (upd m x v) xs vs
  | _, _ => m
theorem t_assignNames {px : Pos} (e : EnvOk env) : ∀ {xs : List (Str × Pos)} {vs : List Value} {h : Heap} {m : Str → Option Value} {Q : Unit → Heap → Prop}, S h₀ D env.locals m l h → xs.length = vs.length → (∀ x ∈ xs, env.kindOf x.1 = some .local) →
    (∀ h', S h₀ D env.locals (updAll m (xs.map (·.1)) vs) l h' → Q () h') → T prog w A (assignInOrder ((assignEach (xs.map fun x => PySem.Expr.Name x.1 x.2) env).map (·.2)) vs) h Q
  | [], [], h, m, Q, H, _, _, q => T.pure (q h H)
  | x :: xs, v :: vs, h, m, Q, H, hn, hk, q => by
    refine T.eq (t' := (do PySem.holding vs (assign (.Name x.1 x.2) env v); assignInOrder ((assignEach (xs.map fun x => PySem.Expr.Name x.1 x.2) env).map (·.2)) vs)) rfl ?_
    exact T.bind (T.holding (t_assignName e H (fun h' H' => t_assignNames (px := px) e H' (by simpa using hn) (fun x hx => hk x (.tail _ hx)) q) (hk x (.head _))))
  | [], _ :: _, _, _, _, _, hn, _, _ => by simp at hn
  | _ :: _, [], _, _, _, _, hn, _, _ => by simp at hn
theorem S.track {a : Addr} {o : Obj} (H : S h₀ D L m l h) (ho : h.get? a = some o) (hn : h₀.get? a = none) (hL : a ≠ L) (hl : a ∉ l.map (·.1)) : S h₀ D L m (l ++ [(a, o)]) h :=
  S.perm (l := (a, o) :: l) { base := H.base, ns := H.ns, led := fun p hp => by
                                rcases List.mem_cons.mp hp with rfl | hp
                                · exact ho
                                · exact H.led p hp
                              own := fun p hp => by
                                rcases List.mem_cons.mp hp with rfl | hp
                                · exact .inr hn
                                · exact H.own p hp
                              nodup := by rw [List.map_cons, List.nodup_cons]; exact ⟨hl, H.nodup⟩
                              offL := by rw [List.map_cons, List.mem_cons]; exact fun q => q.elim (fun q => hL q.symm) H.offL
                              newL := H.newL, dl := fun d hd => List.mem_cons_of_mem _ (H.dl d hd) } (List.perm_append_singleton _ _).symm
theorem S.fresh {a : Addr} (H : S h₀ D L m l h) (hn : h.get? a = none) : h₀.get? a = none ∧ a ≠ L ∧ a ∉ l.map (·.1) := by
  have hl : a ∉ l.map (·.1) := fun q => by
    obtain ⟨p, hp, e⟩ := List.mem_map.mp q
    have := H.led p hp
    rw [e, hn] at this; cases this
  refine ⟨?_, fun q => ?_, hl⟩
  · cases e : h₀.get? a with
    | none => rfl
    | some o =>
      have := H.base a o (fun q => hl (H.dl a q)) e
      rw [hn] at this; cases this
  · obtain ⟨oL, _, _, e, _⟩ := H.ns
    rw [← q, hn] at e; cases e
theorem S.keepBut {X : List Addr} (H : S h₀ D L m l h) (x : Sub X h h') (hX : ∀ b ∈ X, b ∉ D ∧ h₀.get? b = none ∧ b ≠ L ∧ b ∉ l.map (·.1)) : S h₀ D L m l h' where
  base := fun b ob n eb => x b ob (fun q => by rw [(hX b q).2.1] at eb; cases eb) (H.base b ob n eb)
  ns := by
    obtain ⟨oL, a1, a2, a3, a4⟩ := H.ns
    exact ⟨oL, a1, a2, x _ _ (fun q => (hX L q).2.2.1 rfl) a3, a4⟩
  led := fun p hp => x _ _ (fun q => (hX p.1 q).2.2.2 (List.mem_map_of_mem hp)) (H.led p hp)
  own := H.own
  nodup := H.nodup
  offL := H.offL
  newL := H.newL
  dl := H.dl
theorem S.ownEnd {E : List (Addr × Obj)} (H : S h₀ D L m (l ++ E) h) (hd : ∀ d ∈ D, d ∈ l.map (·.1)) : ∀ b ∈ E.map (·.1), b ∉ D ∧ h₀.get? b = none ∧ b ≠ L ∧ b ∉ l.map (·.1) := fun b hb => by
  have nd := H.nodup
  rw [List.map_append, List.nodup_append] at nd
  have nl : b ∉ l.map (·.1) := fun q => nd.2.2 b q b hb rfl
  have nD : b ∉ D := fun q => nl (hd b q)
  obtain ⟨p, hp, rfl⟩ := List.mem_map.mp hb
  refine ⟨nD, (H.own p (List.mem_append_right _ hp)).resolve_left nD, fun q => H.offL ?_, nl⟩
  rw [List.map_append]
  exact List.mem_append_right _ (q ▸ hb)
inductive LstI (h₀ : Heap) (D : List Addr) (L I ax : Addr) (vs : List Value) (Inv : Nat → (Str → Option Value) → List (Addr × Obj) → Prop) (k : Nat) (h : Heap) : Prop
  | mk (i : Nat) (m₁ : Str → Option Value) (l₁ : List (Addr × Obj)) (o : Obj) (x1 : k + i = vs.length) (x2 : Inv i m₁ l₁) (x3 : S h₀ D L m₁ (l₁ ++ [(I, o)]) h) (x4 : h.IsListIter I ax i)
inductive EnmI (h₀ : Heap) (D : List Addr) (L I ax : Addr) (vs : List Value) (Inv : Nat → (Str → Option Value) → List (Addr × Obj) → Prop) (k : Nat) (h : Heap) : Prop
  | mk (i : Nat) (m₁ : Str → Option Value) (l₁ : List (Addr × Obj)) (oi oe : Obj) (old : Value) (x1 : k + i = vs.length) (x2 : Inv i m₁ l₁) (x3 : S h₀ D L m₁ (l₁ ++ [(I, oi), (I + 1, oe)]) h) (x4 : h.IsListIter I ax i) (x5 : IsEnum h (I + 1) I i old)
inductive RngI (h₀ : Heap) (D : List Addr) (L I : Addr) (a b : Int) (Inv : Nat → (Str → Option Value) → List (Addr × Obj) → Prop) (k : Nat) (h : Heap) : Prop
  | mk (i : Nat) (m₁ : Str → Option Value) (l₁ : List (Addr × Obj)) (o : Obj) (x1 : (k : Int) + (i : Int) = b - a) (x2 : Inv i m₁ l₁) (x3 : S h₀ D L m₁ (l₁ ++ [(I, o)]) h) (x4 : IsRangeIter h I (a + (i : Int)) (b - a - (i : Int)) 1)
theorem tf_list {x : Str} {px : Pos} {ax : Addr} {vs : List Value} {body : List Stmt} {Q : Flow → Heap → Prop} (e : EnvOk env) (hh : A.handled = none) (hx : env.kindOf x = some .local) (H : S h₀ D env.locals m l h)
    (Inv : Nat → (Str → Option Value) → List (Addr × Obj) → Prop) (hD : ∀ i m l, Inv i m l → ∀ d ∈ D, d ∈ l.map (·.1))
    (hl : ∀ i m l h, Inv i m l → S h₀ D env.locals m l h → h.IsList ax vs.toArray) (h0 : Inv 0 m l)
    (turn : ∀ i v m₁ l₁ I o h, vs[i]? = some v → Inv i m₁ l₁ → S h₀ D env.locals (upd m₁ x v) (l₁ ++ [(I, o)]) h → T prog w A (execs body env) h fun f h₃ => match f with
      | .next | .cont => ∃ m₂ l₂, Inv (i + 1) m₂ l₂ ∧ S h₀ D env.locals m₂ (l₂ ++ [(I, o)]) h₃
      | .brk => Q .next h₃
      | .ret v => Q (.ret v) h₃)
    (done : ∀ m₁ l₁ h, Inv vs.length m₁ l₁ → S h₀ D env.locals m₁ l₁ h → Q .next h) :
    T prog w A (pyIter (.ref ax)) h fun it h₂ => TF prog w A (.forLoop (.Name x px) it body [] env) h₂ Q := fun s es => by
  subst es
  refine wpAny_pyIter_list (hl 0 m l _ h0 H) ⟨_, s.toks, rfl, ?_⟩
  have HI := H.addEnd (Sub.push _ { cls := .type "list_iterator", data := .fields #[.ref ax, rawInt 0] }) (get_size_none _) (get_push_self _ _)
  refine TF.forLoop (LstI h₀ D env.locals s.heap.objs.size ax vs Inv) ?_ vs.length ⟨0, m, l, _, rfl, h0, HI, ⟨_, HI.getEnd, rfl, rfl⟩⟩
  rintro k h ⟨i, m₁, l₁, o, hk, hi, HS, hit⟩
  intro s' es'
  subst es'
  have hL := hl i m₁ l₁ _ hi (HS.dropEnd (hD _ _ _ hi))
  cases hv : vs[i]? with
  | none =>
    have hlen : vs.length ≤ i := by simpa using hv
    obtain rfl : i = vs.length := by (first | lia | omega)
    refine wpAny_pyNext_list_end hh hit hL (by simpa using hv) fun h' he => ⟨h', s'.toks, rfl, ?_⟩
    refine done m₁ l₁ h' hi ?_
    have HS' := HS.dropEnd (hD _ _ _ hi)
    obtain ⟨oi, hoi, _⟩ := id hit
    refine { base := fun b ob n eb => ?_, ns := ?_, led := fun p hp => ?_, own := HS'.own, nodup := HS'.nodup, offL := HS'.offL, newL := HS'.newL, dl := HS'.dl }
    · refine he b ob (fun q => ?_) (HS'.base b ob n eb)
      rcases HS.own (s.heap.objs.size, o) (by first | walk_at "mem" | simp) with y | y
      · exact n (q ▸ y)
      · rw [q, y] at eb; cases eb
    · obtain ⟨oL, a1, a2, a3, a4⟩ := HS'.ns
      exact ⟨oL, a1, a2, he _ _ (fun q => HS.offL (by simp [q])) a3, a4⟩
    · exact he _ _ (HS.offEnd p hp) (HS'.led p hp)
  | some v =>
    refine wpAny_pyNext_list_item hit hL (x := v) (by simpa using hv) fun h₁ hit₁ hs₁ => ⟨h₁, s'.toks, rfl, ?_⟩
    obtain ⟨o₁, ho₁, hc₁⟩ := id hit₁
    have H₁ := HS.updEnd (Sub.same hs₁) ho₁
    refine T.eq rfl (T.pure ?_)
    refine t_assignName e H₁ (fun h₂ H₂ => ?_) hx
    refine (turn i v m₁ l₁ _ _ h₂ hv hi H₂).mono fun f h₃ z => ?_
    have fin : (∃ m₂ l₂, Inv (i + 1) m₂ l₂ ∧ S h₀ D env.locals m₂ (l₂ ++ [(s.heap.objs.size, o₁)]) h₃) → ∃ k', k' < k ∧ LstI h₀ D env.locals s.heap.objs.size ax vs Inv k' h₃ := by
      rintro ⟨m₂, l₂, i₂, H₃⟩
      have hlt : i < vs.length := by
        rcases Nat.lt_or_ge i vs.length with y | y
        · exact y
        · rw [List.getElem?_eq_none y] at hv; cases hv
      exact ⟨k - 1, by (first | lia | omega), i + 1, m₂, l₂, o₁, by (first | lia | omega), i₂, H₃, o₁, H₃.getEnd, hc₁⟩
    cases f with
    | next => exact fin z
    | cont => exact fin z
    | brk => exact z
    | ret v => exact z

theorem tf_enum {xi xv : Str} {pi pv pt : Pos} {k1 : Nat} {ax : Addr} {vs : List Value} {body : List Stmt} {Q : Flow → Heap → Prop} (e : EnvOk env) (hh : A.handled = none) (hxi : env.kindOf xi = some .local) (hxv : env.kindOf xv = some .local) (H : S h₀ D env.locals m l h)
    (Inv : Nat → (Str → Option Value) → List (Addr × Obj) → Prop) (hD : ∀ i m l, Inv i m l → ∀ d ∈ D, d ∈ l.map (·.1))
    (hl : ∀ i m l h, Inv i m l → S h₀ D env.locals m l h → h.IsList ax vs.toArray) (h0 : Inv 0 m l)
    (turn : ∀ i v t m₁ l₁ E h, vs[i]? = some v → Inv i m₁ l₁ → S h₀ D env.locals (upd (upd m₁ xi (.int i t)) xv v) (l₁ ++ E) h → T prog w A (execs body env) h fun f h₃ => match f with
      | .next | .cont => ∃ m₂ l₂, Inv (i + 1) m₂ l₂ ∧ S h₀ D env.locals m₂ (l₂ ++ E) h₃
      | .brk => Q .next h₃
      | .ret v => Q (.ret v) h₃)
    (done : ∀ m₁ l₁ h, Inv vs.length m₁ l₁ → S h₀ D env.locals m₁ l₁ h → Q .next h) :
    T prog w A (PySem.call (.type "enumerate") [.ref ax]) h fun ev h₁ => T prog w A (pyIter ev) h₁ fun it h₂ => TF prog w A (.forLoop (.Tuple [.Name xi pi, .Name xv pv] k1 pt) it body [] env) h₂ Q := fun s es => by
  subst es
  refine call_enumerate_list (hl 0 m l _ h0 H) fun h₁ he hit hsz hk => ⟨h₁, s.toks, rfl, ?_⟩
  obtain ⟨oi, hoi, hci⟩ := id hit
  have n1 : s.heap.get? (s.heap.objs.size + 1) = none := by
    cases q : s.heap.get? (s.heap.objs.size + 1) with
    | none => rfl
    | some o => exact absurd (Heap.lt_size q) (Nat.not_lt.mpr (Nat.le_succ _))
  have HI : S h₀ D env.locals m (l ++ [(s.heap.objs.size, oi)]) h₁ := H.addEnd (Sub.of_keep hk) (get_size_none _) hoi
  obtain ⟨f1, f2, f3⟩ := H.fresh n1
  have HE := HI.track he f1 f2 (by
    rw [List.map_append, List.mem_append]
    exact fun q => q.elim f3 fun q => absurd (by simpa using q) (Nat.succ_ne_self s.heap.objs.size))
  rw [List.append_assoc] at HE
  have hlist : ∀ i m₁ l₁ (E : List (Addr × Obj)) h, Inv i m₁ l₁ → S h₀ D env.locals m₁ (l₁ ++ E) h → h.IsList ax vs.toArray := fun i m₁ l₁ E h hi HS => hl i m₁ l₁ h hi (HS.dropEnd (hD _ _ _ hi))
  refine fun s₁ es₁ => ?_
  subst es₁
  refine wpAny_pyIter_enum he ⟨_, s₁.toks, rfl, ?_⟩
  generalize hI : s.heap.objs.size = I at *
  refine TF.forLoop (EnmI h₀ D env.locals I ax vs Inv) ?_ vs.length ⟨0, m, l, _, _, _, rfl, h0, HE, hit, he⟩
  rintro k h ⟨i, m₁, l₁, oi, oe, old, hk', hi, HS, hit, he⟩
  intro s' es'
  subst es'
  have hL := hlist i m₁ l₁ _ _ hi HS
  have ne : I + 1 ≠ I := Nat.succ_ne_self _
  cases hv : vs[i]? with
  | none =>
    have hlen : vs.length ≤ i := by simpa using hv
    obtain rfl : i = vs.length := by (first | lia | omega)
    refine wpAny_pyNext_enum_end hh he hit hL (by first | walk_at "mem" | simp) fun h' hx => ⟨h', s'.toks, rfl, ?_⟩
    exact done m₁ l₁ h' hi ((HS.dropEnd (hD _ _ _ hi)).keepBut (Sub.ext hx) fun b hb => HS.ownEnd (hD _ _ _ hi) b (by simp at hb ⊢; exact .inl hb))
  | some v =>
    refine wpAny_pyNext_enum_item he hit hL (x := v) (by simpa using hv) ne fun h₂ heo hit₂ ht hsz₂ hk₂ => ⟨h₂, _, rfl, ?_⟩
    have own := HS.ownEnd (hD _ _ _ hi)
    have HB := HS.dropEnd (hD _ _ _ hi)
    have hnewT : s'.heap.get? s'.heap.objs.size = none := get_size_none _
    obtain ⟨o₂, ho₂, hc₂⟩ := id hit₂
    have H₂ : S h₀ D env.locals m₁ l₁ h₂ := HB.keepBut (X := [I, I + 1]) (fun b ob nb eb => hk₂ b ob (fun q => nb (by simp [q])) (fun q => nb (by simp [q])) eb) fun b hb => own b (by simpa using hb)
    intro s₂ es₂
    subst es₂
    refine wpAny_letOwnedTupleGo_enum heo fun h₃ he₃ hs₃ => ⟨h₃, s₂.toks, rfl, ?_⟩
    have H₃ : S h₀ D env.locals m₁ l₁ h₃ := H₂.keepBut (X := [I + 1]) (Sub.same hs₃) fun b hb => own b (by simp at hb ⊢; exact .inr hb)
    obtain ⟨oe₃, hoe₃, hen₃⟩ : ∃ o, h₃.get? (I + 1) = some o ∧ ∀ h : Heap, h.get? (I + 1) = some o → IsEnum h (I + 1) I ((i + 1 : Nat) : Int) v := ⟨_, he₃, fun h q => q⟩
    have hI3 : h₃.get? I = some o₂ := (hs₃.2 I ne.symm).trans ho₂
    have o1 := own I (by first | walk_at "mem" | simp)
    have o2 := own (I + 1) (by first | walk_at "mem" | simp)
    have H₃' : S h₀ D env.locals m₁ (l₁ ++ [(I, o₂), (I + 1, oe₃)]) h₃ := by
      have a1 := H₃.track hI3 o1.2.1 o1.2.2.1 o1.2.2.2
      have a2 := a1.track hoe₃ o2.2.1 o2.2.2.1 (by
        rw [List.map_append, List.mem_append]
        exact fun q => q.elim o2.2.2.2 fun q => ne (by simpa using q))
      rwa [List.append_assoc] at a2
    have hlt : i < vs.length := by
      rcases Nat.lt_or_ge i vs.length with y | y
      · exact y
      · rw [List.getElem?_eq_none y] at hv; cases hv
    have htup : h₃.IsTuple s'.heap.objs.size #[.int i s'.toks, v] := by
      refine ⟨_, (hs₃.2 _ fun q => ?_).trans ht, rfl, _, rfl⟩
      have := HS.led (I + 1, oe) (by first | walk_at "mem" | simp)
      rw [← q, hnewT] at this; cases this
    intro s₃ es₃
    subst es₃
    refine wpAny_assign_Tuple hh htup rfl rfl fun h₄ hx₄ => ?_
    have H₄ := H₃'.sub (h' := h₄) (fun b ob _ eb => hx₄ b ob (fun q => by rw [q, get_size_none] at eb; cases eb) eb)
    have step : T prog w A (assignInOrder ((assignEach [PySem.Expr.Name xi pi, .Name xv pv] env).map (·.2)) [.int i s'.toks, v]) h₄ fun _ h₅ => S h₀ D env.locals (upd (upd m₁ xi (.int i s'.toks)) xv v) (l₁ ++ [(I, o₂), (I + 1, oe₃)]) h₅ := by
      exact t_assignNames (px := pi) e (xs := [(xi, pi), (xv, pv)]) H₄ rfl (by
        intro x hx
        rcases List.mem_cons.mp hx with rfl | hx
        · exact hxi
        · rcases List.mem_singleton.mp hx with rfl
          exact hxv) fun h' H' => H'
    refine wpAny_mono (step _ rfl) ?_ fun _ _ z => z
    rintro _ s₅ ⟨h₅, t₅, rfl, H₅⟩
    refine ⟨h₅, t₅, rfl, ?_⟩
    refine (turn i v _ m₁ l₁ _ h₅ hv hi H₅).mono fun f h₆ z => ?_
    have fin : (∃ m₂ l₂, Inv (i + 1) m₂ l₂ ∧ S h₀ D env.locals m₂ (l₂ ++ [(I, o₂), (I + 1, oe₃)]) h₆) → ∃ k', k' < k ∧ EnmI h₀ D env.locals I ax vs Inv k' h₆ := by
      rintro ⟨m₂, l₂, i₂, H₆⟩
      exact ⟨k - 1, by (first | lia | omega), i + 1, m₂, l₂, _, _, v, by (first | lia | omega), i₂, H₆, ⟨o₂, H₆.get (by first | walk_at "mem" | simp), hc₂⟩, hen₃ _ (H₆.get (by first | walk_at "mem" | simp))⟩
    cases f with
    | next => exact fin z
    | cont => exact fin z
    | brk => exact z
    | ret v => exact z
end
end Mine

end
section
open PySem PySem.W PyProof.Rows PySem.Calls
set_option Elab.async false
set_option linter.unusedVariables false
set_option maxRecDepth 100000
namespace Mine
section
variable {prog : Program} {w : World} {A : Around} {h h' h₀ : Heap} {env : Env} {D : List Addr} {L : Addr} {m m' : Str → Option Value} {l l' : List (Addr × Obj)} {K : Frag}

structure FnOk (K : Frag) (f : Addr) (fd : FuncData) (body : List Stmt) : Prop where
  lk : ∃ o, K.lookup f = some o ∧ o.data = .func fd
  cd : codeIn K fd.code fd.qualname = true
  body : fd.body = .stmts body
  cell : (fd.scope.names.all fun x => x.2 != .cell) = true
  co : fd.scope.isCoroutine = false
  gen : fd.scope.isGenerator = false
  kind : fd.scope.kind = .function
  glob : fd.globals = mainGlobals
  blt : fd.builtins = builtinsNs
theorem FnOk.ok {f : Addr} {fd : FuncData} {body : List Stmt} (F : FnOk K f fd body) (L : Addr) : EnvOk (callEnv fd L f) := ⟨F.kind, F.glob, F.blt, by
  unfold interactive; simp [callEnv, newEnv, F.kind]⟩
theorem TC.def {f : Addr} {fd : FuncData} {body : List Stmt} {args : List Value} {binds : List (Str × Value)} {Q : Value → Heap → Prop} (lD : List (Addr × Obj)) (F : FnOk K f fd body) (G : Gr K h) (hroom : A.depth < recursionLimit)
    (hbind : bindArgs fd ⟨args, []⟩ = Pure.pure binds) (hloc : (binds.map (·.1)).all (fun x => decide (fd.scope.names.lookup x = some .local)) = true) (hl : ∀ p ∈ lD, h.get? p.1 = some p.2) (nd : (lD.map (·.1)).Nodup)
    (k : ∀ h₁ L, S h (lD.map (·.1)) L (bindM binds) lD h₁ → T prog w (A.deeper (callEnv fd L f)) (execs body (callEnv fd L f)) h₁ fun fl h' => Q (match fl with | .ret v => v | _ => .none) h') : TC prog w A (.call (.ref f) ⟨args, []⟩) h Q := by
  obtain ⟨o, ho, hd⟩ := F.lk
  refine TC.fn lD hroom (G.k _ _ ho) hd G.nolimit (codeRec_of G.k F.cd) F.body hbind (fun x hx => ?_) (fun x hx => ?_) hl nd (fun h₁ L H _ => k h₁ L H) F.co F.gen F.kind
  · have := List.all_eq_true.mp F.cell x hx
    simpa using this
  · have := List.all_eq_true.mp hloc x.1 (List.mem_map_of_mem hx)
    exact of_decide_eq_true this

theorem t_getMethodB {a : Addr} {o : Obj} {T' : String} {name : Str} {id : String} {pl : Sem Bool} {Q : Value × List Value → Heap → Prop} (ho : h.get? a = some o) (hc : o.cls = .type T') (hd : o.dict = none) (pa : PlainAttrs T') (slot : Slot T' name id)
    (hty : typeOf (.builtin id) = Pure.pure (.type "method_descriptor")) (q : Q (.builtin id, [.ref a]) h) : T prog w A (getMethod (.ref a) name pl) h Q := fun s es => by
  subst es
  exact getMethod_builtin (T := T') ⟨o, ho, hc⟩ pa slot hty (fun b e => by cases e; exact ⟨o, ho, hd⟩) ⟨_, s.toks, rfl, q⟩
theorem IsDic.cls {o : Obj} {kvs : List (Int × Value)} (x : IsDic prog w o kvs) : o.cls = .type "dict" ∧ o.dict = none := let ⟨_, _, a, _⟩ := x; ⟨a.1, a.2.1⟩
theorem IsLst.cls {o : Obj} {vs : List Value} (x : IsLst o vs) : o.cls = .type "list" ∧ o.dict = none := let ⟨_, e⟩ := x; by subst e; exact ⟨rfl, rfl⟩

theorem t_isTrue_plain {e : PySem.Expr} {whole : Sem Value} {Q : Bool → Heap → Prop} (t : T prog w A whole h fun v h₁ => T prog w A (truthy v) h₁ Q) (he : isTrue e env whole = (do let v ← whole; PySem.standAt e.pos; PySem.holding [v] (truthy v)) := by rfl) : T prog w A (isTrue e env whole) h Q :=
  T.eq he (T.bind (t.mono fun v h₁ x => T.bind (T.standAt (T.holding x))))
theorem t_truthy_none {Q : Bool → Heap → Prop} (q : Q false h) : T prog w A (truthy .none) h Q := fun s es => by subst es; exact truthy_none ⟨_, s.toks, rfl, q⟩
theorem t_truthy_int {i : Int} {t : Tok} {Q : Bool → Heap → Prop} (q : Q (i != 0) h) : T prog w A (truthy (.int i t)) h Q := fun s es => by subst es; exact PyProof.Rows.truthy_int ⟨_, s.toks, rfl, q⟩
theorem t_isTrue_and {x : PySem.Expr} {rest : List PySem.Expr} {pos : Pos} {whole : Sem Value} {Q : Bool → Heap → Prop} (t : T prog w A (isTrue x env (eval x env)) h fun c h₁ => if c = true then T prog w A (isTrue (.BoolOp .And rest pos) env whole) h₁ Q else Q false h₁) :
    T prog w A (isTrue (.BoolOp .And (x :: rest) pos) env whole) h Q := fun s es => isTrue_and (wpAny_mono (t s es) (by
      rintro c s₁ ⟨h₁, t₁, rfl, z⟩
      cases c with
      | true => exact wpAny_mono (z _ rfl) (by rintro vs s₂ ⟨h₂, t₂, rfl, z⟩; exact ⟨h₂, t₂, rfl, z⟩) fun _ _ z => z
      | false => exact ⟨_, _, rfl, z⟩) fun _ _ z => z)
theorem t_isTrue_and0 {pos : Pos} {whole : Sem Value} {Q : Bool → Heap → Prop} (q : Q true h) : T prog w A (isTrue (.BoolOp .And [] pos) env whole) h Q := fun s es => isTrue_and_nil ⟨s.heap, s.toks, rfl, es ▸ q⟩
theorem t_isTrue_not {x : PySem.Expr} {pos : Pos} {whole : Sem Value} {Q : Bool → Heap → Prop} (t : T prog w A (isTrue x env (eval x env)) h fun c h₁ => Q (!c) h₁) : T prog w A (isTrue (.UnaryOp .Not x pos) env whole) h Q := fun s es => isTrue_not (t s es)
theorem t_set0 {Q : Value → Heap → Prop} (q : ∀ a h' led, Sub [] h h' → h.get? a = none → h'.get? a = some { cls := .type "set", dict := none, data := .set #[] 0 (.fresh 0 0 led) } → Q (.ref a) h') : T prog w A (PySem.call (.type "set") []) h Q := fun s es => by
  subst es
  exact call_set_0 fun led => ⟨_, s.toks, rfl, q _ _ led (Sub.push _ _) (get_size_none _) (get_push_self _ _)⟩
theorem t_len {a : Addr} {vs : List Value} {Q : Value → Heap → Prop} (hl : h.IsList a vs.toArray) (hz : vs.length < 2 ^ 62) (q : ∀ t, Q (.int vs.length t) h) : T prog w A (PySem.call (.builtin "len") [.ref a]) h Q := fun s es => by
  subst es
  refine call_len_list hl (by simp only [List.size_toArray]; (first | lia | omega)) ⟨_, _, rfl, ?_⟩
  simp only [List.size_toArray]
  exact q _
theorem t_Assign2 {t₁ t₂ value : PySem.Expr} {pos : Pos} {Q : Flow → Heap → Prop} (t : T prog w A (eval value env) h fun v h₁ => T prog w A (assign t₁ env v) h₁ fun _ h₂ => T prog w A (assign t₂ env v) h₂ fun _ => Q .next)
    (he : (assignEach [t₁, t₂] env).map (·.2) = [assign t₁ env, assign t₂ env] := by rfl) (hw : swappedStores [t₁, t₂] value env = Pure.pure none := by rfl) : T prog w A (exec (.Assign [t₁, t₂] value pos) env) h Q := fun s es =>
  wpAny_Assign_two (wpAny_mono (t s es) (by
    rintro v s₁ ⟨h₁, t₁, rfl, y⟩
    refine wpAny_mono (y _ rfl) (by
      rintro _ s₂ ⟨h₂, t₂, rfl, z⟩
      exact wpAny_mono (z _ rfl) (by rintro vs s₂ ⟨h₂, t₂, rfl, z⟩; exact ⟨h₂, t₂, rfl, z⟩) fun _ _ z => z) fun _ _ z => z) fun _ _ z => z) he hw
theorem t_Assign3 {t₁ t₂ t₃ value : PySem.Expr} {pos : Pos} {Q : Flow → Heap → Prop} (t : T prog w A (eval value env) h fun v h₁ => T prog w A (assign t₁ env v) h₁ fun _ h₂ => T prog w A (assign t₂ env v) h₂ fun _ h₃ => T prog w A (assign t₃ env v) h₃ fun _ => Q .next)
    (he : (assignEach [t₁, t₂, t₃] env).map (·.2) = [assign t₁ env, assign t₂ env, assign t₃ env] := by rfl) (hw : swappedStores [t₁, t₂, t₃] value env = Pure.pure none := by rfl) : T prog w A (exec (.Assign [t₁, t₂, t₃] value pos) env) h Q := fun s es =>
  wpAny_Assign_three (wpAny_mono (t s es) (by
    rintro v s₁ ⟨h₁, t₁, rfl, y⟩
    refine wpAny_mono (y _ rfl) (by
      rintro _ s₂ ⟨h₂, t₂, rfl, z⟩
      exact wpAny_mono (z _ rfl) (by
        rintro _ s₂ ⟨h₂, t₂, rfl, z⟩
        exact wpAny_mono (z _ rfl) (by rintro vs s₂ ⟨h₂, t₂, rfl, z⟩; exact ⟨h₂, t₂, rfl, z⟩) fun _ _ z => z) fun _ _ z => z) fun _ _ z => z) fun _ _ z => z) he hw
theorem t_assignAttr {o : PySem.Expr} {attr : Str} {pos : Pos} {v : Value} {Q : Unit → Heap → Prop} (t : T prog w A (eval o env) h fun ov h₁ => T prog w A (PySem.setAttr ov attr v) h₁ Q) : T prog w A (assign (.Attribute o attr pos) env v) h Q := fun s es => by
  rw [assign_Attribute]
  refine wpAny_bind (wpAny_holding (wpAny_mono (t s es) (by
    rintro ov s₁ ⟨h₁, t₁, rfl, y⟩
    refine wpAny_bind (wpAny_standAt (wpAny_bind (wpAny_holding (wpAny_mono (y _ rfl) (by
      rintro _ s₂ ⟨h₂, t₂, rfl, z⟩
      exact wpAny_release ⟨h₂, t₂, rfl, z⟩) fun _ _ z => z))))) fun _ _ z => z))
theorem t_Assign_Attr {o value : PySem.Expr} {attr : Str} {pa pos : Pos} {Q : Flow → Heap → Prop} (t : T prog w A (eval value env) h fun v h₁ => T prog w A (eval o env) h₁ fun ov h₂ => T prog w A (PySem.setAttr ov attr v) h₂ fun _ => Q .next)
    (hs : swapsWith value (some (.Attribute o attr pa)) pos.line env = Pure.pure false := by rfl) : T prog w A (exec (.Assign [.Attribute o attr pa] value pos) env) h Q := fun s es =>
  plainObj_wpAny_Assign_Attribute (wpAny_mono (t s es) (by
    rintro v s₁ ⟨h₁, t₁, rfl, y⟩
    refine wpAny_mono (y _ rfl) (by
      rintro _ s₂ ⟨h₂, t₂, rfl, z⟩
      exact wpAny_mono (z _ rfl) (by rintro vs s₂ ⟨h₂, t₂, rfl, z⟩; exact ⟨h₂, t₂, rfl, z⟩) fun _ _ z => z) fun _ _ z => z) fun _ _ z => z) hs
end
end Mine

end
section
open PySem PySem.W PyProof.Rows PySem.Calls
set_option Elab.async false
set_option linter.unusedVariables false
set_option maxRecDepth 100000
namespace Mine
section
variable {prog : Program} {w : World} {A : Around} {h h' h₀ : Heap} {env : Env} {D : List Addr} {L : Addr} {m m' : Str → Option Value} {l l' : List (Addr × Obj)} {K : Frag}

theorem TC.fnB {f : Addr} {o : Obj} {fd : FuncData} {body : List Stmt} {args : Args} {binds : List (Str × Value)} {Q : Value → Heap → Prop} (lD : List (Addr × Obj))
    (hroom : A.depth < recursionLimit) (ho : h.get? f = some o) (hdata : o.data = .func fd) (hlim : h.NoLimit) (hcd : h.CodeRec fd.code fd.qualname) (hbody : fd.body = .stmts body) (hbind : ∀ s : Shared, s.heap = h → BindsTo s fd args binds)
    (hcell : ∀ x ∈ fd.scope.names, x.2 ≠ .cell) (hloc : ∀ x ∈ binds, fd.scope.names.lookup x.1 = some .local)
    (hl : ∀ p ∈ lD, h.get? p.1 = some p.2) (nd : (lD.map (·.1)).Nodup)
    (k : ∀ h₁ L, S h (lD.map (·.1)) L (bindM binds) lD h₁ → h.get? L = none → T prog w (A.deeper (callEnv fd L f)) (execs body (callEnv fd L f)) h₁ fun fl h' => Q (match fl with | .ret v => v | _ => .none) h')
    (hco : fd.scope.isCoroutine = false) (hgen : fd.scope.isGenerator = false) (hk : fd.scope.kind = .function) : TC prog w A (.call (.ref f) args) h Q := fun s e => by
  subst e
  refine codeAny_call_def (binds := binds) hroom ho hdata hlim hcd hbody (hbind _ rfl) hcell hloc (fun h₁ hns hkeep => ?_) hco hgen hk
  have H : S s.heap (lD.map (·.1)) s.heap.objs.size (bindM binds) lD h₁ := {
    base := fun b o _ e => hkeep b o e
    ns := by rw [← bindM_eq]; exact hns
    led := fun p hp => hkeep _ _ (hl p hp)
    own := fun p hp => .inl (List.mem_map_of_mem hp)
    nodup := nd
    offL := fun q => by
      obtain ⟨p, hp, e⟩ := List.mem_map.mp q
      have := hl p hp
      rw [e, get_size_none] at this; cases this
    newL := get_size_none _
    dl := fun d hd => hd }
  refine wpAny_mono (k h₁ _ H (get_size_none _) _ rfl) (by
    rintro fl s' ⟨h', tk, rfl, q⟩
    exact ⟨_, _, _, rfl, rfl, q⟩) fun _ _ z => z.elim
theorem TC.defB {f : Addr} {fd : FuncData} {body : List Stmt} {args : List Value} {binds : List (Str × Value)} {Q : Value → Heap → Prop} (lD : List (Addr × Obj)) (F : FnOk K f fd body) (G : Gr K h) (hroom : A.depth < recursionLimit)
    (hbind : ∀ s : Shared, s.heap = h → BindsTo s fd ⟨args, []⟩ binds) (hloc : (binds.map (·.1)).all (fun x => decide (fd.scope.names.lookup x = some .local)) = true) (hl : ∀ p ∈ lD, h.get? p.1 = some p.2) (nd : (lD.map (·.1)).Nodup)
    (k : ∀ h₁ L, S h (lD.map (·.1)) L (bindM binds) lD h₁ → T prog w (A.deeper (callEnv fd L f)) (execs body (callEnv fd L f)) h₁ fun fl h' => Q (match fl with | .ret v => v | _ => .none) h') : TC prog w A (.call (.ref f) ⟨args, []⟩) h Q := by
  obtain ⟨o, ho, hd⟩ := F.lk
  refine TC.fnB lD hroom (G.k _ _ ho) hd G.nolimit (codeRec_of G.k F.cd) F.body hbind (fun x hx => ?_) (fun x hx => ?_) hl nd (fun h₁ L H _ => k h₁ L H) F.co F.gen F.kind
  · have := List.all_eq_true.mp F.cell x hx
    simpa using this
  · have := List.all_eq_true.mp hloc x.1 (List.mem_map_of_mem hx)
    exact of_decide_eq_true this

theorem bindsK {K : Frag} {h : Heap} {fd : FuncData} {args : Args} {binds : List (Str × Value)} {T : Addr} {o : Obj} {items : Array Value} {n : Nat} {k : Option (Array Value) → Sem (List (Str × Value))} (X : K.In h) (hd : fd.defaults = .ref T) (ho : K.lookup T = some o) (hs : o.data = .seq items n)
    (h₁ : bindArgs fd args = seqItems? fd.defaults >>= k) (h₂ : k (some items) = pure binds) : ∀ s : Shared, s.heap = h → BindsTo s fd args binds := fun s e => BindsTo.of_defaults hd (e ▸ X _ _ ho) hs h₁ h₂
end
end Mine

end
section
open PySem PySem.W PyProof.Rows PySem.Calls
set_option Elab.async false
set_option linter.unusedVariables false
set_option maxRecDepth 100000
namespace Mine
section
variable {prog : Program} {w : World} {A : Around} {h h' h₀ : Heap} {env : Env} {D : List Addr} {L : Addr} {m m' : Str → Option Value} {l l' : List (Addr × Obj)} {K : Frag}
theorem tf_range {x : Str} {px : Pos} {a b : Int} {t u : Tok} {body : List Stmt} {Q : Flow → Heap → Prop} (e : EnvOk env) (hh : A.handled = none) (hx : env.kindOf x = some .local) (H : S h₀ D env.locals m l h) (ha : -1000000 ≤ a) (hab : a ≤ b) (hb : b ≤ 1000000)
    (Inv : Nat → (Str → Option Value) → List (Addr × Obj) → Prop) (hD : ∀ i m l, Inv i m l → ∀ d ∈ D, d ∈ l.map (·.1)) (h0 : Inv 0 m l)
    (turn : ∀ (i : Nat) t m₁ l₁ I o h, a + (i : Int) < b → Inv i m₁ l₁ → S h₀ D env.locals (upd m₁ x (.int (a + i) t)) (l₁ ++ [(I, o)]) h → T prog w A (execs body env) h fun f h₃ => match f with
      | .next | .cont => ∃ m₂ l₂, Inv (i + 1) m₂ l₂ ∧ S h₀ D env.locals m₂ (l₂ ++ [(I, o)]) h₃
      | .brk => Q .next h₃
      | .ret v => Q (.ret v) h₃)
    (done : ∀ (n : Nat) m₁ l₁ h, a + (n : Int) = b → Inv n m₁ l₁ → S h₀ D env.locals m₁ l₁ h → Q .next h) :
    T prog w A (PySem.call (.type "range") [.int a t, .int b u]) h fun ev h₁ => T prog w A (pyIter ev) h₁ fun it h₂ => TF prog w A (.forLoop (.Name x px) it body [] env) h₂ Q := fun s es => by
  subst es
  refine call_range_2 ⟨_, _, rfl, fun s₁ es₁ => ?_⟩
  have hR := IsRange.new s.heap a b 1 t u s.toks
  have HR : S h₀ D env.locals m l s₁.heap := by rw [es₁]; exact H.sub (Sub.push _ _)
  rw [← es₁] at hR
  refine wpAny_pyIter_range hR (small_one (by (first | lia | omega)) (by (first | lia | omega)) (by (first | lia | omega)) (by (first | lia | omega))) ⟨_, s₁.toks, rfl, ?_⟩
  have HI := HR.addEnd (Sub.push _ { cls := .type "range_iterator", data := .fields #[rawInt a, rawInt (Builtin.Range.rangeSize a b 1), rawInt 1] }) (get_size_none _) (get_push_self _ _)
  have hsz : Builtin.Range.rangeSize a b 1 = b - a := by rw [rangeSize_one]; split <;> (first | lia | omega)
  rw [hsz] at HI
  rw [hsz]
  generalize hI : s₁.heap.objs.size = I at *
  refine TF.forLoop (RngI h₀ D env.locals I a b Inv) ?_ (b - a).toNat ⟨0, m, l, _, by (first | lia | omega), h0, HI, by simpa using HI.getEnd⟩
  rintro k h ⟨i, m₁, l₁, o, hk, hi, HS, hit⟩
  intro s' es'
  subst es'
  by_cases hlt : a + (i : Int) < b
  · refine wpAny_pyNext_range_item hit (by (first | lia | omega)) fun h₁ hit₁ hs₁ => ⟨h₁, _, rfl, ?_⟩
    have H₁ := HS.updEnd (Sub.same hs₁) hit₁
    generalize ho₁ : ({ cls := .type "range_iterator", dict := none, data := .fields #[rawInt (a + (i : Int) + 1), rawInt (b - a - (i : Int) - 1), rawInt 1], slots := #[] } : Obj) = o₁ at H₁
    refine T.eq rfl (T.pure ?_)
    refine t_assignName e H₁ (fun h₂ H₂ => ?_) hx
    refine (turn i _ m₁ l₁ _ _ h₂ hlt hi H₂).mono fun f h₃ z => ?_
    have fin : (∃ m₂ l₂, Inv (i + 1) m₂ l₂ ∧ S h₀ D env.locals m₂ (l₂ ++ [(I, o₁)]) h₃) → ∃ k', k' < k ∧ RngI h₀ D env.locals I a b Inv k' h₃ := by
      rintro ⟨m₂, l₂, i₂, H₃⟩
      refine ⟨k - 1, by (first | lia | omega), i + 1, m₂, l₂, _, by (first | lia | omega), i₂, H₃, ?_⟩
      have := H₃.getEnd
      have e1 : a + ((i + 1 : Nat) : Int) = a + (i : Int) + 1 := by (first | lia | omega)
      have e2 : b - a - ((i + 1 : Nat) : Int) = b - a - (i : Int) - 1 := by (first | lia | omega)
      rw [e1, e2]; rw [← ho₁] at this; exact this
    cases f with
    | next => exact fin z
    | cont => exact fin z
    | brk => exact z
    | ret v => exact z
  · refine wpAny_pyNext_range_end hh hit (by (first | lia | omega)) fun h' hx => ⟨h', s'.toks, rfl, ?_⟩
    exact done i m₁ l₁ h' (by (first | lia | omega)) hi ((HS.dropEnd (hD _ _ _ hi)).keepBut (Sub.ext hx) fun b hb => HS.ownEnd (hD _ _ _ hi) b (by simpa using hb))
end
end Mine

end
section
open PySem PySem.W PyProof.Rows PySem.Calls
set_option Elab.async false
set_option linter.unusedVariables false
set_option maxRecDepth 100000
namespace Mine
section
variable {prog : Program} {w : World} {A : Around} {h h' h₀ : Heap} {env : Env} {D : List Addr} {L : Addr} {m m' : Str → Option Value} {l l' : List (Addr × Obj)} {K : Frag}
theorem blockKind_of (e : EnvOk env) : env.blockKind = .function := by unfold Env.blockKind; rw [e.kind]; rfl
theorem sw_scope {ts : List PySem.Expr} {v : PySem.Expr} {env' : Env} (hs : env.scope = env'.scope) : swappedStores ts v env = swappedStores ts v env' := by
  cases env
  cases env'
  cases hs
  rfl
theorem IsTupO.isTup {a : Addr} {o : Obj} {vs : List Value} (ho : h.get? a = some o) (x : IsTupO o vs) : IsTup h a vs.toArray := let ⟨n, e⟩ := x; ⟨o, ho, by rw [e], n, by rw [e]⟩
theorem t_bindNames (e : EnvOk env) : ∀ {xs : List Str} {vs : List Value} {h : Heap} {m : Str → Option Value} {Q : Unit → Heap → Prop}, S h₀ D env.locals m l h → xs.length = vs.length → (∀ x ∈ xs, env.kindOf x = some .local) →
    (∀ h', S h₀ D env.locals (updAll m xs vs) l h' → Q () h') → T prog w A (assignInOrder (xs.map fun n => bindName env n) vs) h Q
  | [], [], h, m, Q, H, _, _, q => T.pure (q h H)
  | x :: xs, v :: vs, h, m, Q, H, hn, hk, q => by
    refine T.eq (t' := (do PySem.holding vs (bindName env x v); assignInOrder (xs.map fun n => bindName env n) vs)) rfl ?_
    refine T.bind (T.holding ?_)
    exact fun s es => bindName_ (T.storeName e H (fun h' H' => t_bindNames e H' (by simpa using hn) (fun x hx => hk x (.tail _ hx)) q) (hk x (.head _)) s es)
  | [], _ :: _, _, _, _, _, hn, _, _ => by simp at hn
  | _ :: _, [], _, _, _, _, hn, _, _ => by simp at hn
theorem t_unpack {t : Addr} {o : Obj} {vs : List Value} {n : Nat} {Q : List Value → Heap → Prop} (hh : A.handled = none) (ho : h.get? t = some o) (ht : IsTupO o vs) (hn : n = vs.length) (q : ∀ h', Sub [] h h' → Q vs h') : T prog w A (unpackItems (.ref t) n none) h Q := fun s es => by
  subst es hn
  have := unpackItems_tuple (prog := prog) (w := w) (A := A) (E := fun _ _ => False) (Q := fun a s' => ∃ h' tk, s' = { s with heap := h', toks := tk } ∧ Q a h') hh (ht.isTup ho) fun h' hx => ⟨h', s.toks, rfl, q h' fun b o _ eb => hx b o (fun q => by rw [q, get_size_none] at eb; cases eb) eb⟩
  simpa using this
theorem t_AssignSwap {elts : List PySem.Expr} {k k' : Nat} {tpos vpos pos : Pos} {vals : List PySem.Expr} {names : List Str} {Q : Flow → Heap → Prop} (e : EnvOk env) (hh : A.handled = none)
    (x : TArgs prog w A env vals h fun vs h₁ => vs.length ≤ sizeLine ∧ vs.length = names.length ∧ ∃ m l, S h₀ D env.locals m l h₁ ∧ ∀ h', S h₀ D env.locals (updAll m names.reverse vs.reverse) l h' → Q .next h')
    (hk : ∀ y ∈ names, env.kindOf y = some .local) (hw : swappedStores [.Tuple elts k tpos] (.Tuple vals k' vpos) env = pure (some names)) (hst : noStars vals = true)
    (hs : swapsWithSole [.Tuple elts k tpos] (.Tuple vals k' vpos) pos.line env = pure false := by rfl) : T prog w A (exec (.Assign [.Tuple elts k tpos] (.Tuple vals k' vpos) pos) env) h Q := by
  have main : T prog w A (eval (.Tuple vals k' vpos) env) h fun v h₁ => T prog w A (unpackItems v names.length none) h₁ fun items h₂ => T prog w A (assignInOrder (names.reverse.map fun n => bindName env n) items.reverse) h₂ fun _ => Q .next := by
    refine t_Tuple (x.mono fun vs h₁ z => ⟨z.1, fun a h₂ o s₂ n₂ g₂ t₂ => ?_⟩) hst
    obtain ⟨_, hlen, m, l, H, q⟩ := z
    refine t_unpack hh g₂ t₂ hlen.symm fun h₃ s₃ => ?_
    exact t_bindNames e ((H.sub s₂).sub s₃) (by simp [hlen]) (fun y hy => hk y (by simpa using hy)) fun h' H' => q h' H'
  exact fun s es => Assign_Tuple_swapped (wpAny_mono (main s es) (by
    rintro v s₁ ⟨h₁, t₁, rfl, y⟩
    refine wpAny_mono (y _ rfl) (by
      rintro items s₂ ⟨h₂, t₂, rfl, z⟩
      exact wpAny_mono (z _ rfl) (by rintro _ s₃ ⟨h₃, t₃, rfl, q⟩; exact ⟨h₃, t₃, rfl, q⟩) fun _ _ z => z) fun _ _ z => z) fun _ _ z => z) hs hw
theorem IsTupO.isTuple {a : Addr} {o : Obj} {vs : List Value} (ho : h.get? a = some o) (x : IsTupO o vs) : h.IsTuple a vs.toArray := let ⟨n, e⟩ := x; ⟨o, ho, by rw [e], n, by rw [e]⟩
theorem each_len (xs : List (Str × Pos)) : (assignEach (xs.map fun x => PySem.Expr.Name x.1 x.2) env).length = xs.length := by
  induction xs with
  | nil => rfl
  | cons x r ih => exact congrArg (· + 1) ih
theorem each_star (xs : List (Str × Pos)) : (assignEach (xs.map fun x => PySem.Expr.Name x.1 x.2) env).findIdx? (·.1) = none := by
  induction xs with
  | nil => rfl
  | cons x r ih =>
    have : assignEach ((x :: r).map fun x => PySem.Expr.Name x.1 x.2) env = (false, assign (.Name x.1 x.2) env) :: assignEach (r.map fun x => PySem.Expr.Name x.1 x.2) env := rfl
    rw [this, List.findIdx?_cons, ih]; rfl
theorem t_assignTup {xs : List (Str × Pos)} {k : Nat} {tpos : Pos} {t : Addr} {o : Obj} {vs : List Value} {Q : Unit → Heap → Prop} (e : EnvOk env) (hh : A.handled = none) (H : S h₀ D env.locals m l h) (ho : h.get? t = some o) (ht : IsTupO o vs) (hn : xs.length = vs.length) (hk : ∀ x ∈ xs, env.kindOf x.1 = some .local)
    (q : ∀ h', S h₀ D env.locals (updAll m (xs.map (·.1)) vs) l h' → Q () h') : T prog w A (assign (.Tuple (xs.map fun x => PySem.Expr.Name x.1 x.2) k tpos) env (.ref t)) h Q := fun s es => by
  subst es
  refine wpAny_assign_Tuple hh (ht.isTuple ho) (by rw [each_len]; simpa using hn) (each_star xs) fun h₄ hx₄ => ?_
  have H₄ := H.sub (h' := h₄) (fun b ob _ eb => hx₄ b ob (fun q => by rw [q, get_size_none] at eb; cases eb) eb)
  exact wpAny_mono (t_assignNames (px := tpos) e H₄ hn hk q _ rfl) (by rintro _ s₅ ⟨h₅, t₅, rfl, z⟩; exact ⟨h₅, t₅, rfl, z⟩) fun _ _ z => z
end
end Mine

end
section
open PySem PySem.W PyProof.Rows PySem.Calls
set_option Elab.async false
set_option linter.unusedVariables false
set_option maxRecDepth 100000
namespace Mine
section
variable {prog : Program} {w : World} {A : Around} {h h' h₀ : Heap} {env : Env} {D : List Addr} {L : Addr} {m m' : Str → Option Value} {l l' : List (Addr × Obj)} {K : Frag}
theorem t_SubList {value idx : PySem.Expr} {pos : Pos} {Q : Value → Heap → Prop}
    (t : T prog w A (eval value env) h fun o h₁ => T prog w A (eval idx env) h₁ fun i h₂ => ∃ a vs k u x, o = .ref a ∧ i = .int k u ∧ h₂.IsList a (List.toArray vs) ∧ 0 ≤ k ∧ k < 2 ^ 63 ∧ vs[k.toNat]? = some x ∧ Q x h₂)
    (hsub : ∀ o i, subscripted idx false o i = operate [o, i] (getItem o i) := by intro _ _; rfl) (ht : ∀ o r, letTemporaryGo value o r = pure () := by intro _ _; rfl) : T prog w A (eval (.Subscript value idx pos) env) h Q := fun s es => by
  rw [eval_Subscript]
  refine wpAny_bind (wpAny_mono (t s es) (fun o s₁ h₁ => ?_) fun _ _ x => x)
  obtain ⟨g₁, t₁, rfl, h₁⟩ := h₁
  refine wpAny_bind (wpAny_holding (wpAny_mono (h₁ _ rfl) (fun i s₂ h₂ => wpAny_bind (wpAny_standAt ?_)) fun _ _ x => x))
  obtain ⟨g₂, t₂, rfl, a, vs, k, u, x, rfl, rfl, hl, h0, hk, hx, q⟩ := h₂
  have hT : (⟨g₂, s.gens, s.drawn, t₂, s.os⟩ : Shared).TypeIs (.ref a) "list" := hl.typeIs
  refine wpAny_bind ?_
  rw [getitemInPython_of_ne hT.not_modules]
  refine wpAny_bind (wpAny_specialOf hT PySem.F.slot_list_getitem.lookup ?_)
  have fin : wpAny (model prog w) A (operate [.ref a, .int k u] (getItem (.ref a) (.int k u))) (fun r s₃ => wpAny (model prog w) A (letTemporaryGo value (.ref a) r >>= fun _ => pure r) (fun a s' => ∃ h' tk, s' = { s with heap := h', toks := tk } ∧ Q a h') (fun _ _ => False) s₃) (fun _ _ => False) ⟨g₂, s.gens, s.drawn, t₂, s.os⟩ :=
    wpAny_operating (getItem_listL hl h0 hk hx (wpAny_bind (wpAny_of_eq (ht _ _) (wpAny_pure ⟨_, _, rfl, q⟩))))
  have fin' := wpAny_bind fin
  rw [← hsub] at fin'
  exact wpAny_pure fin'
theorem t_assignSub {o i : PySem.Expr} {pos : Pos} {v : Value} {Q : Unit → Heap → Prop} (t : T prog w A (eval o env) h fun ov h₁ => T prog w A (eval i env) h₁ fun iv h₂ => T prog w A (setItem ov iv v) h₂ Q) : T prog w A (assign (.Subscript o i pos) env v) h Q := fun s es => by
  rw [assign_Subscript]
  refine wpAny_bind (wpAny_holding (wpAny_mono (t s es) (fun ov s₁ h₁ => ?_) fun _ _ x => x))
  obtain ⟨g₁, t₁, rfl, h₁⟩ := h₁
  refine wpAny_bind (wpAny_holding (wpAny_mono (h₁ _ rfl) (fun iv s₂ h₂ => wpAny_bind (wpAny_standAt ?_)) fun _ _ x => x))
  obtain ⟨g₂, t₂, rfl, h₂⟩ := h₂
  refine wpAny_bind (wpAny_holding (wpAny_mono (h₂ _ rfl) (fun _ s₃ h₃ => ?_) fun _ _ x => x))
  obtain ⟨g₃, t₃, rfl, q⟩ := h₃
  exact wpAny_release ⟨_, _, rfl, q⟩
end
end Mine

end
section
open PySem PySem.W PyProof.Rows PySem.Calls
set_option Elab.async false
set_option linter.unusedVariables false
set_option maxRecDepth 100000
set_option maxHeartbeats 4000000
namespace Mine
section
variable {prog : Program} {w : World} {A : Around} {K : Frag} {C : Addr} {R : Result → Shared → Prop} {h : Heap} {g : Array GenState} {d : Drawn} {t : Nat} {os : OsState}
noncomputable def ownIn (K : Frag) (C : Addr) : Bool := match K.lookup C with
  | some ⟨_, _, .cls cd, sl⟩ => !cd.abstract && !cd.hasDel && (sl.toList[4]?).join == some .none && !cd.mro.isEmpty && cd.mro.contains (.ref C) &&
      specialIn K (.ref C) "__call__" == some (some (.builtin "type.__call__")) && instIn K (.ref C) (.type "type") == some true
  | _ => false
structure MakesOwn (M : Model) (h : Heap) (C : Addr) : Prop where
  obj : ∃ oc od cd sl, h.get? C = some ⟨oc, od, .cls cd, sl⟩ ∧ cd.abstract = false ∧ cd.hasDel = false ∧ cd.mro.isEmpty = false
  made : Looks M h (Bind.madeBy (.ref C)) none
  self : Looks M h (isSubtype (.ref C) (.ref C)) true
  call : Looks M h (specialOf (.ref C) "__call__") (some (.builtin "type.__call__"))
  typ : Looks M h (isInstance (.ref C) (.type "type")) true
theorem makesOwn_of {M : Model} (X : K.In h) (e : ownIn K C = true) : MakesOwn M h C := by
  unfold ownIn at e
  split at e
  · rename_i oc od cd sl ho
    simp only [Bool.and_eq_true, Bool.not_eq_true', beq_iff_eq] at e
    obtain ⟨⟨⟨⟨⟨⟨e1, e2⟩, e3⟩, e4⟩, e5⟩, e7⟩, e8⟩ := e
    have hc : clsIn K C = some cd := by unfold clsIn; rw [ho]
    have hm : Looks M h (mroOf (.ref C)) cd.mro := (looks_clsIn X hc).andThen .now
    obtain ⟨c, l, hl⟩ : ∃ c l, cd.mro = c :: l := by cases q : cd.mro with | nil => rw [q] at e4; cases e4 | cons c l => exact ⟨c, l, rfl⟩
    have made : Looks M h (Bind.madeBy (.ref C)) none := by
      intro A Q E s k q
      unfold Bind.madeBy
      refine wpAny_bind (hm A _ E s k ?_)
      rw [hl, List.forIn_cons]
      refine wpAny_bind (wpAny_bind (wpAny_bind (wpAny_bind (wpAny_loadPart (k _ _ (X _ _ ho)) (wpAny_pure ?_)))))
      dsimp only
      rw [← Array.getElem?_toList, e3]
      exact wpAny_pure (wpAny_pure (wpAny_pure q))
    refine ⟨⟨oc, od, cd, sl, X _ _ ho, e1, e2, e4⟩, made, looks_mroIn X ?_, looks_specialIn X e7, looks_instIn X e8⟩
    unfold mroIn; rw [hc, Option.bind_some, if_neg (by rw [e4]; decide), e5]
  · cases e
theorem make_own {rest : List Value} {fN : Addr} (Y : MakesOwn (model prog w) h C)
    (hN : ∀ (A' : Around) (Q : Value → Shared → Prop) (E : Value → Shared → Prop), Q (.ref fN) ⟨h, g, d, t + 1, os⟩ → wpAny (model prog w) A' (getAttr (.ref C) "__new__") Q E ⟨h, g, d, t, os⟩)
    (hq : codeAny (model prog w) (A.under (.builtin "type.__call__" ⟨.ref C :: rest, []⟩)) (.call (.ref fN) ⟨.ref C :: rest, []⟩) (fun r s' => ∃ v, r = .ok (.ret v) ∧ Looks (model prog w) s'.heap (isInstance v (.ref C)) true ∧ Looks (model prog w) s'.heap (specialOf v "__init__") (some (.builtin "object.__init__")) ∧
      wpAny (model prog w) (A.under (.builtin "type.__call__" ⟨.ref C :: rest, []⟩)) (call (.builtin "object.__init__") (v :: rest)) (fun r s'' => r = .none ∧ R (.ok (.ret v)) s'') (fun e s'' => R (.error e) s'') s') ⟨h, g, d, t + 1, os⟩) :
    codeAny (model prog w) A (.call (.ref C) ⟨rest, []⟩) R ⟨h, g, d, t, os⟩ := by
  obtain ⟨⟨oc, od, cd, sl, hC, e1, e2, e4⟩, made, self, call, typ⟩ := Y
  refine codeAny_of_tree ?_
  show wpAny _ _ (callAny (.ref C) _) _ _ _
  refine nd_load hC ?_
  show wpAny _ _ (callAny.viaDunder (.ref C) _) _ _ _
  unfold callAny.viaDunder
  refine wpAny_bind (call.at ?_)
  dsimp only
  rw [tc_bind]
  refine wpAny_bind (wpAny_pure (wpAny_bind (wpAny_pure ?_)))
  refine wpAny_pure (a := Fin.again (.call (.builtin "type.__call__") ⟨.ref C :: rest, []⟩)) (And.intro rfl ?_)
  refine codeAny_call_builtin_at (Code.quiet_builtin _ (by decide +kernel)) entry_typeCall (check_slot tc_kind tc_split typ (tc_args _ _ _) ?_)
  unfold Builtin.«type.__call__»
  have hm : Looks (model prog w) h (mroOf (.ref C)) cd.mro := ((Looks.ld (part := none) hC).andThen .now).andThen .now
  repeat (first | simp only [e4, Bool.false_eq_true, if_false] | (with_reducible refine hN _ _ _ ?_) | with_reducible refine wpAny_call ?_ | lk)
  refine codeAny_mono hq fun r s' z => ?_
  obtain ⟨v, rfl, i1, sp, z⟩ := z
  refine wpAny_bind (i1.here ?_)
  rw [if_neg (by decide)]
  refine wpAny_bind (wpAny_holding ?_)
  unfold callSpecial?
  refine wpAny_bind (sp.here ?_)
  show wpAny _ _ (holding (v :: rest ++ ([] : List (Str × Value)).map (·.2)) (bindSpecial (.builtin "object.__init__") v >>= fun x => PySem.call x.1 (x.2 ++ rest) >>= fun y => Pure.pure (some y))) _ _ _
  refine wpAny_holding ?_
  rw [oi_bind]
  refine wpAny_bind (wpAny_pure ?_)
  refine wpAny_bind (wpAny_mono z (fun r s'' y => ?_) fun _ _ y => y)
  obtain ⟨rfl, y⟩ := y
  refine wpAny_pure ?_
  exact wpAny_pure y
end
end Mine

end
section
open PySem PySem.W PyProof.Rows PySem.Calls
set_option Elab.async false
set_option linter.unusedVariables false
set_option maxRecDepth 100000
set_option maxHeartbeats 4000000
namespace Mine
noncomputable abbrev aSM : Addr := at_SequenceMatcher
theorem plainSM (P : Params) : Plain (frag P) aSM := ⟨by kernel_rfl!, by kernel_rfl!, by kernel_rfl!, by kernel_rfl!, by kernel_rfl!⟩
noncomputable def attrN : List Str := [Str.ofString "isjunk", Str.ofString "a", Str.ofString "b", Str.ofString "autojunk", Str.ofString "matching_blocks", Str.ofString "opcodes", Str.ofString "fullbcount", Str.ofString "b2j", Str.ofString "bjunk", Str.ofString "bpopular"]
theorem attr_none (P : Params) : (attrN.all fun x => findIn (frag P) (.ref aSM) x == some none) = true := by kernel_rfl!
theorem attr_take (P : Params) : (attrN.all fun x => takerIn (frag P) aSM x == some none) = true := by kernel_rfl!
theorem attrFind (P : Params) {x : Str} (hx : x ∈ attrN) : findIn (frag P) (.ref aSM) x = some none := beq_iff_eq.mp (List.all_eq_true.mp (attr_none P) x hx)
theorem attrTake (P : Params) {x : Str} (hx : x ∈ attrN) : takerIn (frag P) aSM x = some none := beq_iff_eq.mp (List.all_eq_true.mp (attr_take P) x hx)
theorem fn_chain_b (P : Params) : FnOk (frag P) at_SequenceMatcher_chain_b fdOf_SequenceMatcher_chain_b (bodyN (stN (bodyN (stN pwBody 5)) 5)) :=
  ⟨⟨obOf_SequenceMatcher_chain_b P, by kernel_rfl!, rfl⟩, by kernel_rfl!, by kernel_rfl!, by kernel_rfl!, by kernel_rfl!, by kernel_rfl!, by kernel_rfl!, by kernel_rfl!, by kernel_rfl!⟩
end Mine

end
section
open PySem PySem.W PyProof.Rows PySem.Calls
set_option Elab.async false
set_option linter.unusedVariables false
set_option maxRecDepth 100000
set_option maxHeartbeats 4000000
namespace Mine
section
variable {prog : Program} {w : World} {A : Around} {h h' h₀ : Heap} {M : Model}
noncomputable abbrev aMt : Addr := at_Match
theorem own_mt (P : Params) : ownIn (frag P) aMt = true := by kernel_rfl!
theorem best_tuple : Builtin.Slots.bestBase [.type "tuple"] = Pure.pure (.type "tuple") := by first | rfl | kernel_rfl
theorem ob_mt (P : Params) : (frag P).lookup aMt = some (o135 P) := by kernel_rfl!
theorem base_mt (X : (frag w.params).In h) : Looks (model prog w) h (Bind.staticBase (.ref aMt)) (.type "tuple") := by
  have hC := X _ _ (ob_mt w.params)
  have made := (makesOwn_of (M := model prog w) X (own_mt w.params)).made
  have hmro : Looks (model prog w) h (mroOf (.ref aMt)) [.ref aMt, .type "tuple", .type "object"] := ((Looks.ld (part := none) hC).andThen .now).andThen .now
  have hcd : Looks (model prog w) h (classData aMt) _ := ((Looks.ld (part := none) hC).andThen .now)
  have mt : Looks (model prog w) h (Bind.madeBy (.type "tuple")) (some "tuple.__new__") := Looks.of_pure PySem.F.called_tuple.made
  intro A Q E s k q
  unfold Bind.staticBase
  refine wpAny_bind (hmro A _ E s k ?_)
  rw [List.forIn_cons]
  refine wpAny_bind ?_
  dsimp only
  refine wpAny_bind (wpAny_bind (made A _ E s k ?_))
  rw [if_neg (by decide)]
  refine wpAny_bind (hcd A _ E s k ?_)
  refine wpAny_bind ?_
  show wpAny _ _ (Builtin.Slots.bestBase [.type "tuple"]) _ _ _
  rw [best_tuple]
  refine wpAny_pure (wpAny_pure ?_)
  dsimp only
  rw [List.forIn_cons]
  refine wpAny_bind ?_
  dsimp only
  refine wpAny_bind (mt A _ E s k ?_)
  rw [if_pos (by decide)]
  exact wpAny_pure (wpAny_pure (wpAny_pure q))
noncomputable def matchObj (da : Addr) (vs : List Value) : Obj := { cls := .ref aMt, dict := some da, data := .seq vs.toArray }
theorem tn_kind : builtinKind "tuple.__new__" = some .builtinFn := by kernel_rfl
theorem tn_split : splitId "tuple.__new__" = some ("tuple", "__new__") := by decide +kernel
theorem tn_plain : plainId "tuple.__new__" = true := by decide +kernel
theorem tn_find (P : Params) : findIn (frag P) (.ref aMt) "__init__" = some (some (.builtin "object.__init__")) := by kernel_rfl!
theorem mro_tuple (P : Params) : mroIn (frag P) aMt (.type "tuple") = some true := by kernel_rfl!
theorem mro_object (P : Params) : mroIn (frag P) aMt (.type "object") = some true := by kernel_rfl!
theorem call_tn {s : Shared} {E : Value → Shared → Prop} {l : Addr} {o : Obj} {vs : List Value} {Q : Value → Shared → Prop} (X : (frag w.params).In s.heap) (ho : s.heap.get? l = some o) (ht : IsTupO o vs) (hsz : vs.length ≤ sizeLine)
    (q : ∀ (h' : Heap) da, (∀ b o', s.heap.get? b = some o' → h'.get? b = some o') → s.heap.get? da = none → Q (.ref h'.objs.size) { s with heap := h'.push (matchObj da vs) }) : wpAny (model prog w) A (call (.builtin "tuple.__new__") [.ref aMt, .ref l]) Q E s := by
  obtain ⟨hp, g, d, tk, os⟩ := s
  dsimp only at X ho q
  have hC := X _ _ (ob_mt w.params)
  have made := (makesOwn_of (M := model prog w) X (own_mt w.params)).made
  have base := base_mt (prog := prog) X
  have mt : Looks (model prog w) hp (Bind.madeBy (.type "tuple")) (some "tuple.__new__") := Looks.of_pure PySem.F.called_tuple.made
  have hsub : Looks (model prog w) hp (isSubtype (.ref aMt) (.type "tuple")) true := looks_mroIn X (mro_tuple w.params)
  have hini : Looks (model prog w) hp (typeLookup (.ref aMt) "__init__") (some (.builtin "object.__init__")) := looks_findIn X (tn_find w.params)
  have htyp : Looks (model prog w) hp (isType (.ref aMt)) true := ((Looks.ld (part := none) hC).andThen .now)
  refine wpAny_call (codeAny_call_builtin tn_plain PySem.F.entry_tuple_new ?_)
  simp only [checkBuiltinCall, tn_kind, tn_split]
  obtain ⟨n, rfl⟩ := ht
  rw [if_pos (by decide)]
  repeat (first | simp only [bne_self_eq_false, Bool.false_eq_true, if_false, Bool.not_true] | (with_reducible refine wpAny_collect_seq l (.inr rfl) ho rfl rfl (fun h₁ k₁ => ?_) (by simpa using hsz)) | lk)
  rw [if_neg (by simp; exact hsz)]
  unfold newObjAsIs classHasDel
  refine wpAny_bind (wpAny_alloc (wpAny_bind (wpAny_bind (wpAny_load (Heap.get?_push_of_some _ (Heap.get?_push_of_some _ (k₁ _ _ hC))) (wpAny_pure ?_)))))
  refine wpAny_pure (wpAny_pure ?_)
  have nd : hp.get? h₁.objs.size = none := by
    cases e : hp.get? h₁.objs.size with
    | none => rfl
    | some o => exact absurd (Heap.lt_size (k₁ _ _ e)) (Nat.lt_irrefl _)
  exact q (h₁.push { cls := Value.type "dict", data := Data.dict #[] }) h₁.objs.size (fun b o' e => Heap.get?_push_of_some _ (k₁ _ _ e)) nd
theorem t_methodType {K : Frag} {L : Addr} {m : Str → Option Value} {l : List (Addr × Obj)} {D : List Addr} {T' : String} {name : Str} {v : Value} {pl : Sem Bool} {Q : Value × List Value → Heap → Prop} (H : S h₀ D L m l h) (X : K.In h) (ht : typeOf (.type T') = Pure.pure (.type "type")) (hs : Manifest.isStub T' = false)
    (e : findCls K (.type T') (.type "type") name = some (.val v)) (hh : handedIn v = true) (q : Q (v, []) h) : T prog w A (getMethod (.type T') name pl) h Q := fun s es => by
  subst es
  have LO : Looks (model prog w) s.heap (opaqueClassAbove (.type T')) none := Looks.of_pure (by unfold opaqueClassAbove; dsimp only; rw [hs]; rfl)
  have L0 : Looks (model prog w) s.heap (typeOf (.type T')) (.type "type") := Looks.of_pure ht
  have hg : findIn K (.type "type") "__getattribute__" = some (some (.builtin "type.__getattribute__")) := type_tga
  unfold getMethod specialOf
  refine wpAny_bind (wpAny_bind (L0.here ((looks_findIn X hg).here ?_)))
  dsimp only
  rw [if_pos canon_tga]
  refine wpAny_bind (cls_open X LO L0 hg (looks_hook X (r := none) (by rfl)) (by show subIn K _ _ = _; rfl) e (wpAny_pure ?_))
  show wpAny _ _ (handedOut v) _ _ _
  rw [handedOut_of hh]
  exact wpAny_pure (wpAny_pure ⟨_, _, rfl, q⟩)
theorem tt_tuple : typeOf (.type "tuple") = Pure.pure (.type "type") := by first | rfl | kernel_rfl
theorem fc_tuple (P : Params) : findCls (frag P) (.type "tuple") (.type "type") (Str.ofString "__new__") = some (.val (.builtin "tuple.__new__")) := by kernel_rfl!
theorem hd_tn : handedIn (.builtin "tuple.__new__") = true := by decide +kernel
theorem st_tuple : Manifest.isStub "tuple" = false := by decide +kernel
theorem t_tupleNew {L : Addr} {m : Str → Option Value} {l : List (Addr × Obj)} {D : List Addr} {pl : Sem Bool} {Q : Value × List Value → Heap → Prop} (H : S h₀ D L m l h) (X : (frag w.params).In h) (q : Q (.builtin "tuple.__new__", []) h) :
   T prog w A (getMethod (.type "tuple") (Str.ofString "__new__") pl) h Q := by
  refine t_methodType (K := frag w.params) (T' := "tuple") (name := Str.ofString "__new__") (v := .builtin "tuple.__new__") H X ?_ ?_ ?_ ?_ ?_
  · exact tt_tuple
  · exact st_tuple
  · exact fc_tuple w.params
  · exact hd_tn
  · exact q
theorem fn_match_new (P : Params) : FnOk (frag P) at_Match_new fdOf_Match_new (bodyN (stN (bodyN (stN pwBody 3)) 4)) :=
  ⟨⟨obOf_Match_new P, by kernel_rfl!, rfl⟩, by kernel_rfl!, by kernel_rfl!, by kernel_rfl!, by kernel_rfl!, by kernel_rfl!, by kernel_rfl!, by kernel_rfl!, by kernel_rfl!⟩
theorem t_tn {l : Addr} {o : Obj} {vs : List Value} {Q : Value → Heap → Prop} (X : (frag w.params).In h) (ho : h.get? l = some o) (ht : IsTupO o vs) (hsz : vs.length ≤ sizeLine)
    (q : ∀ (h' : Heap) x da, Sub [] h h' → h.get? x = none → h'.get? x = some (matchObj da vs) → Q (.ref x) h') : T prog w A (call (.builtin "tuple.__new__") [.ref aMt, .ref l]) h Q := fun s es => by
  subst es
  refine call_tn X ho ht hsz fun h' da k nd => ⟨_, s.toks, rfl, q _ _ da (fun b o _ e => Heap.get?_push_of_some _ (k b o e)) ?_ (get_push_self _ _)⟩
  cases e : s.heap.get? h'.objs.size with
  | none => rfl
  | some o => exact absurd (Heap.lt_size (k _ _ e)) (Nat.lt_irrefl _)
local macro_rules | `(tactic| walk_at "nm") => `(tactic| refine T.Name (by assumption) (by assumption) (by walk_at "look") ?_ (by assumption) (by decide +kernel))
theorem match_new {a b c : Value} {Q : Value → Heap → Prop} (G : Gr (frag w.params) h) (hroom : A.depth < recursionLimit)
    (q : ∀ (h' : Heap) x da, Sub [] h h' → h.get? x = none → h'.get? x = some (matchObj da [a, b, c]) → Q (.ref x) h') : TC prog w A (.call (.ref at_Match_new) ⟨[.ref aMt, a, b, c], []⟩) h Q := by
  refine TC.def (binds := [(Str.ofString "_cls", .ref aMt), (Str.ofString "a", a), (Str.ofString "b", b), (Str.ofString "size", c)]) [] (fn_match_new w.params) G hroom (by kernel_rfl!) (by kernel_rfl!) (by first | walk_at "mem" | simp) (by first | walk_at "mem" | simp) fun h₁ L H => ?_
  have e := (fn_match_new w.params).ok L
  have k1 : (callEnv fdOf_Match_new L at_Match_new).kindOf (Str.ofString "_cls") = some .local := by kernel_rfl!
  have k2 : (callEnv fdOf_Match_new L at_Match_new).kindOf (Str.ofString "a") = some .local := by kernel_rfl!
  have k3 : (callEnv fdOf_Match_new L at_Match_new).kindOf (Str.ofString "b") = some .local := by kernel_rfl!
  have k4 : (callEnv fdOf_Match_new L at_Match_new).kindOf (Str.ofString "size") = some .local := by kernel_rfl!
  have k5 : (callEnv fdOf_Match_new L at_Match_new).kindOf (Str.ofString "tuple") = some .globalImplicit := by kernel_rfl!
  replace H : S h [] L (upd (upd (upd (upd (fun _ => none) (Str.ofString "_cls") (.ref aMt)) (Str.ofString "a") a) (Str.ofString "b") b) (Str.ofString "size") c) [] h₁ := H
  generalize henv : callEnv fdOf_Match_new L at_Match_new = env at *
  have hL : L = env.locals := by rw [← henv]; rfl
  subst hL
  clear henv
  have G₁ := H.gr G
  refine T.execs_cons (T.Expr (T.cStr fun t => ⟨(fun b q => by cases q), ?_⟩) e.inter)
  refine T.execs_cons (T.Return (T.Call_method ?_))
  refine T.builtin (v := .type "tuple") e G₁ (by kernel_rfl!) (by kernel_rfl!) ?_ k5 (by decide +kernel) (by decide +kernel)
  refine t_tupleNew H G₁.k ?_
  refine T.callWith ?_ rfl
  walk_at "nm"
  refine t_Tuple ?_ rfl
  walk_at "nm"
  walk_at "nm"
  walk_at "nm"
  refine ⟨by show 3 ≤ sizeLine; decide, fun t₀ h₂ o₂ s₂ n₂ g₂ l₂ => ⟨Keeps.builtin, ?_⟩⟩
  have G₂ := G₁.sub s₂
  refine t_tn G₂.k g₂ l₂ (by show 3 ≤ sizeLine; decide) fun h₃ x da s₃ n₃ g₃ => ?_
  refine q h₃ x da ((H.base.trans s₂).trans s₃) ?_ g₃
  cases e : h.get? x with
  | none => rfl
  | some o => rw [s₂ _ _ (by first | walk_at "mem" | simp) (H.base _ _ (by first | walk_at "mem" | simp) e)] at n₃; cases n₃
theorem oi_args4 (a b c d : Value) : argsOk "object.__init__" ⟨[a, b, c, d], []⟩ := by unfold argsOk; kernel_rfl
theorem reads_mt (P : Params) : readsIn (frag P) aMt (.type "type") = true := by kernel_rfl!
theorem fc_new (P : Params) : findCls (frag P) (.ref aMt) (.type "type") (Str.ofString "__new__") = some (.get (.builtin "staticmethod.__get__") (.ref 136) .none (.ref aMt)) := by kernel_rfl!
theorem rec_new (P : Params) : recIn (frag P) 136 "staticmethod" = some [.ref at_Match_new] := by kernel_rfl!
theorem make_match {a b c : Value} {Q : Value → Heap → Prop} (G : Gr (frag w.params) h) (hroom : A.depth + 5 < recursionLimit)
    (q : ∀ (h' : Heap) x da, Sub [] h h' → h.get? x = none → h'.get? x = some (matchObj da [a, b, c]) → Q (.ref x) h') : T prog w A (call (.ref aMt) [a, b, c]) h Q := by
  refine T.call fun s es => ?_
  subst es
  obtain ⟨hp, g, d, t, os⟩ := s
  dsimp only at G q
  refine make_own (fN := at_Match_new) (makesOwn_of (K := frag w.params) G.k (own_mt w.params)) ?_ ?_
  · intro A' Q E hq
    exact cls_bind (mc := .type "type") G.k (reads_mt w.params) (fc_new w.params) (wpAny_call (sm_get (s := ⟨hp, g, d, t + 1, os⟩) G.k (rec_new w.params) (handed_on (by decide +kernel) hq)))
  · refine codeAny_mono (match_new (Q := fun v h' => ∃ x da, v = .ref x ∧ Sub [] hp h' ∧ hp.get? x = none ∧ h'.get? x = some (matchObj da [a, b, c])) G ?_ (fun h' x da h1 h2 h3 => ⟨x, da, rfl, h1, h2, h3⟩) ⟨hp, g, d, t + 1, os⟩ rfl) ?_
    · rw [depth_under_make]; (first | lia | omega)
    · rintro r s' ⟨v, h', tk, rfl, rfl, x, da, rfl, h1, h2, h3⟩
      have G' := G.sub h1
      have t1 : Looks (model prog w) h' (typeOf (.ref x)) (.ref aMt) := (Looks.ld h3).andThen .now
      have made := (makesOwn_of (M := model prog w) G'.k (own_mt w.params)).made
      have hini : Looks (model prog w) h' (typeLookup (.ref aMt) "__init__") (some (.builtin "object.__init__")) := looks_findIn G'.k (tn_find w.params)
      refine ⟨_, rfl, t1.andThen (makesOwn_of (M := model prog w) G'.k (own_mt w.params)).self, t1.andThen hini, ?_⟩
      refine wpAny_call (codeAny_call_builtin oi_plain entry_oi (@check_slot (model prog w) _ _ _ "object.__init__" "object" "__init__" (.ref x) [a, b, c] [] _ oi_kind oi_split (t1.andThen (looks_mroIn G'.k (mro_object w.params))) (oi_args4 _ _ _ _) ?_))
      unfold Builtin.«object.__init__»
      dsimp only
      repeat (first | simp only [bne_self_eq_false, Bool.false_eq_true, if_false, Bool.not_true] | lk)
      exact ⟨trivial, _, _, _, rfl, rfl, q h' x da h1 h2 h3⟩
end
end Mine

end
local macro_rules | `(tactic| walk_at "nm") => `(tactic| refine Mine.T.Name (by assumption) (by assumption) (by walk_at "look") ?_ (by assumption) (by decide +kernel))
section
open PySem PySem.W PyProof.Rows PySem.Calls
set_option Elab.async false
set_option linter.unusedVariables false
namespace Mine
noncomputable def Okk {α : Type} (lt : Nat → Nat → Bool) (n : Nat) : KasT α → (α → Prop) → Prop
  | .ret a, Q => Q a
  | .ask i j k, Q => i < n ∧ j < n ∧ Okk lt n (k (lt i j)) Q
theorem Okk.bind {α β : Type} {lt : Nat → Nat → Bool} {n : Nat} {f : α → KasT β} {Q : β → Prop} : ∀ {t : KasT α}, Okk lt n t (fun a => Okk lt n (f a) Q) → Okk lt n (t.bind f) Q
  | .ret a, h => h
  | .ask i j k, h => ⟨h.1, h.2.1, Okk.bind h.2.2⟩
theorem Okk.mono {α : Type} {lt : Nat → Nat → Bool} {n : Nat} {Q Q' : α → Prop} (q : ∀ a, Q a → Q' a) : ∀ {t : KasT α}, Okk lt n t Q → Okk lt n t Q'
  | .ret a, h => q _ h
  | .ask i j k, h => ⟨h.1, h.2.1, Okk.mono q h.2.2⟩
theorem Okk.wp {α : Type} {lt : Nat → Nat → Bool} {n : Nat} {cmp : Nat → Nat → (Bool → Shared → Prop) → Shared → Prop} {Good : Shared → Prop} {P : α → Prop} {Q : α → Shared → Prop}
    (hc : ∀ i j C s, i < n → j < n → Good s → (∀ s', Good s' → C (lt i j) s') → cmp i j C s) (hq : ∀ a s, Good s → P a → Q a s) : ∀ {t : KasT α} {s : Shared}, Okk lt n t P → Good s → t.kasWp cmp Q s
  | .ret a, s, h, g => hq a s g h
  | .ask i j k, s, h, g => hc i j _ s h.1 h.2.1 g fun s' g' => Okk.wp hc hq h.2.2 g'
section
variable {key : Nat → Int} {n : Nat} {p : Array Nat}
structure PP (n : Nat) (p : Array Nat) : Prop where
  size : p.size = n
  perm : p.Perm (List.toArray (List.range n))
theorem PP.at (h : PP n p) {i : Nat} (hi : i < n) : p.getD i 0 < n := by
  have hi' : i < p.size := by rw [h.size]; exact hi
  have : p[i] ∈ List.range n := by
    have := (Array.perm_iff_toList_perm.mp h.perm).mem_iff (a := p[i])
    simpa using this.mp (by first | walk_at "mem" | simp)
  simp only [Array.getD, hi', dite_true]
  simpa using this
theorem PP.ne (h : PP n p) {i j : Nat} (hij : i < j) (hj : j < n) : p.getD i 0 ≠ p.getD j 0 := by
  have hj' : j < p.size := by rw [h.size]; exact hj
  have hi' : i < p.size := by (first | lia | omega)
  have nd : p.toList.Nodup := (Array.perm_iff_toList_perm.mp h.perm).nodup_iff.mpr (by simpa using List.nodup_range)
  have := List.pairwise_iff_getElem.mp nd i j (by simpa using hi') (by simpa using hj') hij
  simp only [Array.getD, hi', hj', dite_true]
  simpa using this
noncomputable def kk (key : Nat → Int) (p : Array Nat) (i : Nat) : Int := key (p.getD i 0)
noncomputable def Asc (key : Nat → Int) (p : Array Nat) (m : Nat) : Prop := ∀ i j, i < j → j < m → kk key p i < kk key p j
noncomputable def ltk (key : Nat → Int) (i j : Nat) : Bool := decide (key i < key j)
theorem asc_step {m : Nat} (h : Asc key p m) (hm : 1 ≤ m) (hl : kk key p (m - 1) < kk key p m) : Asc key p (m + 1) := fun i j hij hj => by
  by_cases e : j = m
  · subst e
    by_cases e2 : i = j - 1
    · rw [e2]; exact hl
    · exact Int.lt_trans (h i (j - 1) (by (first | lia | omega)) (by (first | lia | omega))) hl
  · exact h i j hij (by (first | lia | omega))
theorem ok_asc (inj : ∀ i j, i < n → j < n → i ≠ j → key i ≠ key j) (h : PP n p) : ∀ {f m : Nat}, 1 ≤ m → m + f ≤ n → Asc key p m → Okk (ltk key) n (kas_asc p f m) fun r => m ≤ r ∧ r ≤ m + f ∧ Asc key p r ∧ (r = m + f ∨ kk key p r < kk key p (r - 1))
  | 0, m, _, _, ha => ⟨Nat.le_refl _, Nat.le_refl _, ha, .inl rfl⟩
  | f + 1, m, h1, h2, ha => by
    refine ⟨h.at (by (first | lia | omega)), h.at (by (first | lia | omega)), ?_⟩
    cases c : ltk key (p.getD m 0) (p.getD (m - 1) 0) with
    | true => exact ⟨Nat.le_refl _, by (first | lia | omega), ha, .inr (of_decide_eq_true c)⟩
    | false =>
      have c := of_decide_eq_false c
      have ne := inj _ _ (h.at (i := m - 1) (by (first | lia | omega))) (h.at (i := m) (by (first | lia | omega))) (h.ne (i := m - 1) (j := m) (by (first | lia | omega)) (by (first | lia | omega)))
      refine (ok_asc inj h (f := f) (m := m + 1) (by (first | lia | omega)) (by (first | lia | omega)) (asc_step ha h1 (by unfold kk; (first | lia | omega)))).mono ?_
      rintro r ⟨r1, r2, r3, r4⟩
      exact ⟨by (first | lia | omega), by (first | lia | omega), r3, r4.imp (fun e => by (first | lia | omega)) id⟩
noncomputable def Dsc (key : Nat → Int) (p : Array Nat) (m : Nat) : Prop := ∀ i j, i < j → j < m → kk key p j < kk key p i
theorem dsc_step {m : Nat} (h : Dsc key p m) (hm : 1 ≤ m) (hl : kk key p m < kk key p (m - 1)) : Dsc key p (m + 1) := fun i j hij hj => by
  by_cases e : j = m
  · subst e
    by_cases e2 : i = j - 1
    · rw [e2]; exact hl
    · exact Int.lt_trans hl (h i (j - 1) (by (first | lia | omega)) (by (first | lia | omega)))
  · exact h i j hij (by (first | lia | omega))
theorem ok_desc (inj : ∀ i j, i < n → j < n → i ≠ j → key i ≠ key j) (h : PP n p) : ∀ {f m : Nat}, 1 ≤ m → m + f ≤ n → Dsc key p m → Okk (ltk key) n (kas_desc f p m 0) fun r => r.1 = p ∧ r.2.2 = 0 ∧ m ≤ r.2.1 ∧ r.2.1 ≤ m + f ∧ Dsc key p r.2.1
  | 0, m, _, _, ha => ⟨rfl, rfl, Nat.le_refl _, Nat.le_refl _, ha⟩
  | f + 1, m, h1, h2, ha => by
    refine ⟨h.at (by (first | lia | omega)), h.at (by (first | lia | omega)), ?_⟩
    cases c : ltk key (p.getD m 0) (p.getD (m - 1) 0) with
    | true =>
      refine (ok_desc inj h (f := f) (m := m + 1) (by (first | lia | omega)) (by (first | lia | omega)) (dsc_step ha h1 (of_decide_eq_true c))).mono ?_
      rintro r ⟨r1, r2, r3, r4, r5⟩
      exact ⟨r1, r2, by (first | lia | omega), by (first | lia | omega), r5⟩
    | false =>
      have c := of_decide_eq_false c
      have ne := inj _ _ (h.at (i := m - 1) (by (first | lia | omega))) (h.at (i := m) (by (first | lia | omega))) (h.ne (i := m - 1) (j := m) (by (first | lia | omega)) (by (first | lia | omega)))
      refine ⟨h.at (by (first | lia | omega)), h.at (by (first | lia | omega)), ?_⟩
      rw [show ltk key (p.getD (m - 1) 0) (p.getD m 0) = true from decide_eq_true (by (first | lia | omega))]
      exact ⟨rfl, rfl, Nat.le_refl _, Nat.le_add_right _ _, ha⟩
theorem rev_pp {j : Nat} (h : PP n p) : PP n (kas_rev p 0 j) := ⟨(kas_rev_size 0 j).trans h.size, (mirror_perm _ _ _ _).trans h.perm⟩
theorem kk_rev {j : Nat} (h : PP n p) (hj : j ≤ n) (i : Nat) : kk key (kas_rev p 0 j) i = if i < j then kk key p (j - 1 - i) else kk key p i := by
  have e := getElem?_mirror_all (xs := p) (i := 0) (j := j) (by rw [h.size]; exact hj) i
  unfold kk kas_rev
  simp only [Array.getD_eq_getD_getElem?, e, Nat.zero_le, true_and, Nat.zero_add]
  split <;> rfl
theorem ok_tail3 (inj : ∀ i j, i < n → j < n → i ≠ j → key i ≠ key j) (h : PP n p) {m : Nat} (h1 : 1 ≤ m) (hm : m ≤ n) (hd : Dsc key p m) : Okk (ltk key) n (kas_tail3 m n p) fun r => 1 ≤ r.1 ∧ r.1 ≤ n ∧ PP n r.2 ∧ Asc key r.2 r.1 := by
  have ha : Asc key (kas_rev p 0 m) m := fun i j hij hj => by
    rw [kk_rev h hm, kk_rev h hm, if_pos (by (first | lia | omega)), if_pos hj]
    exact hd _ _ (by (first | lia | omega)) (by (first | lia | omega))
  refine Okk.bind ((ok_asc inj (rev_pp h) h1 (by (first | lia | omega)) ha).mono ?_)
  rintro r ⟨r1, r2, r3, _⟩
  exact ⟨by (first | lia | omega), by (first | lia | omega), rev_pp h, r3⟩
theorem ok_count (inj : ∀ i j, i < n → j < n → i ≠ j → key i ≠ key j) (h : PP n p) (h2 : 2 ≤ n) : Okk (ltk key) n (kas_count n p) fun r => 1 ≤ r.1 ∧ r.1 ≤ n ∧ PP n r.2 ∧ Asc key r.2 r.1 := by
  refine Okk.bind ((ok_asc inj h (f := n - 1) (m := 1) (by (first | lia | omega)) (by (first | lia | omega)) (fun i j _ _ => by (first | lia | omega))).mono ?_)
  rintro r ⟨r1, r2, r3, r4⟩
  by_cases c : r = n
  · subst c
    simp only [beq_self_eq_true, if_true]
    exact ⟨by (first | lia | omega), by (first | lia | omega), h, r3⟩
  · have : (r == n) = false := by simpa using c
    simp only [this, Bool.false_eq_true, if_false]
    by_cases c2 : r > 1
    · rw [if_pos c2]
      refine ⟨h.at (by (first | lia | omega)), h.at (by (first | lia | omega)), ?_⟩
      rw [show ltk key (p.getD 0 0) (p.getD (r - 1) 0) = true from decide_eq_true (r3 0 (r - 1) (by (first | lia | omega)) (by (first | lia | omega)))]
      exact ⟨by (first | lia | omega), by (first | lia | omega), h, r3⟩
    · rw [if_neg c2]
      obtain rfl : r = 1 := by (first | lia | omega)
      have d : kk key p 1 < kk key p 0 := r4.resolve_left (by (first | lia | omega))
      refine Okk.bind ((ok_desc inj h (f := n - 2) (m := 2) (by (first | lia | omega)) (by (first | lia | omega)) (fun i j hij hj => ?_)).mono ?_)
      · obtain rfl : i = 0 := by (first | lia | omega)
        obtain rfl : j = 1 := by (first | lia | omega)
        exact d
      · rintro ⟨q, k, z⟩ ⟨e1, e2, e3, e4, e5⟩
        simp only at e1 e2 e3 e4 e5
        subst e1 e2
        simp only [gt_iff_lt, Nat.lt_irrefl, if_false]
        exact ok_tail3 inj h (by (first | lia | omega)) (by (first | lia | omega)) e5
theorem ok_place {k : Nat} (h : PP n p) (hk : k < n) (ha : Asc key p k) : ∀ {f l r : Nat}, l ≤ r → r ≤ k → r - l ≤ f → (∀ i, i < l → kk key p i ≤ kk key p k) → (∀ i, r ≤ i → i < k → kk key p k < kk key p i) →
    Okk (ltk key) n (kas_place p k f l r) fun x => x ≤ k ∧ (∀ i, i < x → kk key p i ≤ kk key p k) ∧ (∀ i, x ≤ i → i < k → kk key p k < kk key p i)
  | 0, l, r, h1, h2, h3, a1, a2 => ⟨by (first | lia | omega), a1, fun i hi hk => a2 i (by (first | lia | omega)) hk⟩
  | f + 1, l, r, h1, h2, h3, a1, a2 => by
    unfold kas_place
    by_cases c : l ≥ r
    · rw [if_pos c]
      exact ⟨by (first | lia | omega), a1, fun i hi hk => a2 i (by (first | lia | omega)) hk⟩
    · rw [if_neg c]
      refine ⟨h.at (by (first | lia | omega)), h.at (by (first | lia | omega)), ?_⟩
      cases c : ltk key (p.getD k 0) (p.getD ((l + r) / 2) 0) with
      | true =>
        have c : kk key p k < kk key p ((l + r) / 2) := of_decide_eq_true c
        refine ok_place h hk ha (by (first | lia | omega)) (by (first | lia | omega)) (by (first | lia | omega)) a1 fun i hi hk' => ?_
        by_cases e : i = (l + r) / 2
        · rw [e]; exact c
        · have := ha ((l + r) / 2) i (by (first | lia | omega)) (by (first | lia | omega)); (first | lia | omega)
      | false =>
        have c : ¬ kk key p k < kk key p ((l + r) / 2) := of_decide_eq_false c
        refine ok_place h hk ha (by (first | lia | omega)) (by (first | lia | omega)) (by (first | lia | omega)) (fun i hi => ?_) a2
        by_cases e : i = (l + r) / 2
        · rw [e]; (first | lia | omega)
        · have := ha i ((l + r) / 2) (by (first | lia | omega)) (by (first | lia | omega)); (first | lia | omega)
theorem kk_bubble {k d : Nat} (h : PP n p) (hk : k < n) (hd : d ≤ k) (i : Nat) : kk key (bubble p k d) i = if i = k - d then kk key p k else if k - d < i ∧ i ≤ k then kk key p (i - 1) else kk key p i := by
  have e := getElem?_bubble (xs := p) (src := k) (by rw [h.size]; exact hk) d hd i
  unfold kk
  simp only [Array.getD_eq_getD_getElem?, e]
  split
  · rfl
  · split <;> rfl
theorem ok_bin (inj : ∀ i j, i < n → j < n → i ≠ j → key i ≠ key j) : ∀ {f k : Nat} {p : Array Nat}, PP n p → k + f = n → Asc key p k → Okk (ltk key) n (kas_bin f p k) fun r => PP n r ∧ Asc key r n
  | 0, k, p, h, e, ha => by
    obtain rfl : k = n := by (first | lia | omega)
    exact ⟨h, ha⟩
  | f + 1, k, p, h, e, ha => by
    refine Okk.bind ((ok_place h (by (first | lia | omega)) ha (f := k) (l := 0) (r := k) (by (first | lia | omega)) (by (first | lia | omega)) (by (first | lia | omega)) (fun i hi => by (first | lia | omega)) (fun i hi hk => by (first | lia | omega))).mono ?_)
    rintro l ⟨h1, h2, h3⟩
    refine ok_bin inj ⟨(bubble_size _ _ _).trans h.size, (bubble_perm _ _ _).trans h.perm⟩ (by (first | lia | omega)) fun i j hij hj => ?_
    have str : ∀ i, i < l → kk key p i < kk key p k := fun i hi => by
      have := h2 i hi
      have ne := inj _ _ (h.at (i := i) (by (first | lia | omega))) (h.at (i := k) (by (first | lia | omega))) (h.ne (i := i) (j := k) (by (first | lia | omega)) (by (first | lia | omega)))
      unfold kk at this ⊢
      (first | lia | omega)
    have e1 : k - (k - l) = l := by (first | lia | omega)
    rw [kk_bubble h (by (first | lia | omega)) (by (first | lia | omega)), kk_bubble h (by (first | lia | omega)) (by (first | lia | omega)), e1]
    by_cases c1 : j = l
    · subst c1
      rw [if_pos rfl, if_neg (by (first | lia | omega)), if_neg (by (first | lia | omega))]
      exact str i hij
    · rw [if_neg c1]
      by_cases c2 : i = l
      · subst c2
        rw [if_pos rfl, if_pos (by (first | lia | omega))]
        exact h3 (j - 1) (by (first | lia | omega)) (by (first | lia | omega))
      · rw [if_neg c2]
        by_cases c3 : l < i
        · rw [if_pos (by (first | lia | omega)), if_pos (by (first | lia | omega))]
          exact ha _ _ (by (first | lia | omega)) (by (first | lia | omega))
        · rw [if_neg (by (first | lia | omega))]
          by_cases c4 : l < j
          · rw [if_pos (by (first | lia | omega))]
            by_cases c5 : i = j - 1
            · (first | lia | omega)
            · exact ha _ _ (by (first | lia | omega)) (by (first | lia | omega))
          · rw [if_neg (by (first | lia | omega))]
            exact ha _ _ (by (first | lia | omega)) (by (first | lia | omega))
theorem ok_sort (inj : ∀ i j, i < n → j < n → i ≠ j → key i ≠ key j) (h2 : 2 ≤ n) : Okk (ltk key) n (kas_sort n) fun r => PP n r ∧ Asc key r n := by
  have h : PP n (List.toArray (List.range n)) := ⟨by simp, Array.Perm.refl _⟩
  refine Okk.bind ((ok_count inj h h2).mono ?_)
  rintro ⟨m, p⟩ ⟨h1, h3, h4, h5⟩
  simp only at h1 h3 h4 h5 ⊢
  by_cases c : m < n
  · rw [if_pos c]
    have e : max m 1 = m := by (first | lia | omega)
    rw [e]
    exact ok_bin inj h4 (by (first | lia | omega)) h5
  · rw [if_neg c]
    obtain rfl : m = n := by (first | lia | omega)
    exact ⟨h4, h5⟩
end
end Mine

end
section
open PySem PySem.W PyProof.Rows PySem.Calls
set_option Elab.async false
set_option linter.unusedVariables false
set_option maxRecDepth 100000
set_option maxHeartbeats 4000000
namespace Mine
section
variable {prog : Program} {w : World} {A : Around} {E : Value → Shared → Prop} {s : Shared} {h h' h₀ : Heap}
theorem lt_find (P : Params) : findIn (frag P) (.ref aMt) "__lt__" = some (some (.builtin "tuple.__lt__")) := by kernel_rfl!
theorem lt_kind : builtinKind "tuple.__lt__" = some .slot := by kernel_rfl
theorem lt_split : splitId "tuple.__lt__" = some ("tuple", "__lt__") := by decide +kernel
theorem lt_of_int {a b : Int} {t u : Tok} {Q : Value → Shared → Prop} (q : Q (.bool (decide (a < b))) s) : wpAny (model prog w) A (richCompare .Lt (.int a t) (.int b u)) Q E s := PyProof.Rows.lt_int q
theorem call_lt {x y dx dy : Addr} {i j k i' j' k' : Int} {t1 t2 t3 u1 u2 u3 : Tok} {Q : Value → Shared → Prop} (X : (frag w.params).In s.heap) (hx : s.heap.get? x = some (matchObj dx [.int i t1, .int j t2, .int k t3])) (hy : s.heap.get? y = some (matchObj dy [.int i' u1, .int j' u2, .int k' u3]))
    (q : Q (.bool (if i = i' then if j = j' then decide (k < k') else decide (j < j') else decide (i < i'))) s) : wpAny (model prog w) A (call (.builtin "tuple.__lt__") [.ref x, .ref y]) Q E s := by
  obtain ⟨hp, g, d, tk, os⟩ := s
  dsimp only at X hx hy
  have tx : Looks (model prog w) hp (typeOf (.ref x)) (.ref aMt) := (Looks.ld hx).andThen .now
  have ty : Looks (model prog w) hp (typeOf (.ref y)) (.ref aMt) := (Looks.ld hy).andThen .now
  have sub : Looks (model prog w) hp (isSubtype (.ref aMt) (.type "tuple")) true := looks_mroIn X (mro_tuple w.params)
  have ix : Looks (model prog w) hp (isInstance (.ref x) (.type "tuple")) true := tx.andThen sub
  have iy : Looks (model prog w) hp (isInstance (.ref y) (.type "tuple")) true := ty.andThen sub
  refine wpAny_call (codeAny_call_builtin PySem.F.slot_tuple_lt.plain PySem.F.entry_tuple_lt (@check_slot (model prog w) _ _ _ "tuple.__lt__" "tuple" "__lt__" (.ref x) [.ref y] [] _ lt_kind lt_split ix (PySem.F.args_tuple_lt_2 _ _) ?_))
  unfold Builtin.«tuple.__lt__»
  repeat (first | (with_reducible refine wpAny_eqBool_int ?_) | lk)
  by_cases c1 : i = i'
  · rw [if_pos c1] at q
    rw [if_neg (by simp [c1])]
    repeat (first | (with_reducible refine wpAny_eqBool_int ?_) | lk)
    by_cases c2 : j = j'
    · rw [if_pos c2] at q
      rw [if_neg (by simp [c2])]
      repeat (first | (with_reducible refine wpAny_eqBool_int ?_) | lk)
      by_cases c3 : k = k'
      · rw [if_neg (by simp [c3])]
        repeat (first | (with_reducible refine wpAny_eqBool_int ?_) | lk)
        have e : decide (k < k') = false := decide_eq_false (by (first | lia | omega))
        rw [e] at q
        exact q
      · rw [if_pos (by simpa using c3)]
        repeat (first | (with_reducible refine lt_of_int ?_) | lk)
        exact q
    · rw [if_neg c2] at q
      rw [if_pos (by simpa using c2)]
      repeat (first | (with_reducible refine lt_of_int ?_) | lk)
      exact q
  · rw [if_neg c1] at q
    rw [if_pos (by simpa using c1)]
    repeat (first | (with_reducible refine lt_of_int ?_) | lk)
    exact q
theorem key_lt {x y dx dy : Addr} {i j k i' j' k' : Int} {t1 t2 t3 u1 u2 u3 : Tok} {Q : Bool → Shared → Prop} (hu : A.units < cLine) (X : (frag w.params).In s.heap) (hx : s.heap.get? x = some (matchObj dx [.int i t1, .int j t2, .int k t3])) (hy : s.heap.get? y = some (matchObj dy [.int i' u1, .int j' u2, .int k' u3]))
    (q : Q (if i = i' then if j = j' then decide (k < k') else decide (j < j') else decide (i < i')) s) : wpAny (model prog w) A (keyLt' oneType' (.ref x) (.ref y)) Q E s := by
  rw [keyLt'_oneType, oneLt'_eq]
  simp only [if_true]
  refine wpAny_bind (wpAny_cRoomFor hu ?_)
  have tx : Looks (model prog w) s.heap (typeOf (.ref x)) (.ref aMt) := (Looks.ld hx).andThen .now
  have fin : ∀ Q' : Option Value → Shared → Prop, Q' (some (.bool (if i = i' then if j = j' then decide (k < k') else decide (j < j') else decide (i < i')))) s → wpAny (model prog w) A (call (.builtin "tuple.__lt__") ([.ref x] ++ [.ref y]) >>= fun v => pure (some v)) Q' E s := fun Q' q' =>
    wpAny_bind (call_lt X hx hy (wpAny_pure q'))
  simp only [callSpecialIfBound?, bindSpecialIfBound?]
  refine wpAny_bind (wpAny_holding (wpAny_bind (wpAny_bind (wpAny_bind (tx.here ((looks_findIn X (lt_find w.params)).here ?_))))))
  refine wpAny_bind (wpAny_askSetting (wpAny_ite ?_))
  have hb := PySem.F.slot_tuple_lt.bind (.ref x)
  split
  · refine wpAny_bind (wpAny_of_eq hb (wpAny_pure (fin _ ?_)))
    exact wpAny_truthy_bool q
  · refine wpAny_tryCatch (wpAny_bind (wpAny_of_eq hb (wpAny_pure (fin _ ?_))))
    exact wpAny_truthy_bool q
end
end Mine

end
section
open PySem PySem.W PyProof.Rows PySem.Calls
set_option Elab.async false
set_option linter.unusedVariables false
set_option maxRecDepth 100000
set_option maxHeartbeats 4000000
namespace Mine
inductive MtsAre (h : Heap) : List Value → List (Nat × Nat × Nat) → Prop
  | nil : MtsAre h [] []
  | cons {x da : Addr} {i j k : Nat} {t1 t2 t3 : Tok} {vs : List Value} {bs : List (Nat × Nat × Nat)} : h.get? x = some (matchObj da [.int i t1, .int j t2, .int k t3]) → MtsAre h vs bs → MtsAre h (.ref x :: vs) ((i, j, k) :: bs)
section
variable {prog : Program} {w : World} {A : Around} {h h' h₀ : Heap}
theorem MtsAre.length {vs : List Value} {bs : List (Nat × Nat × Nat)} (x : MtsAre h vs bs) : vs.length = bs.length := by
  induction x with
  | nil => rfl
  | cons _ _ ih => simp [ih]
theorem MtsAre.get {vs : List Value} {bs : List (Nat × Nat × Nat)} (x : MtsAre h vs bs) : ∀ {n : Nat}, n < vs.length → ∃ y da t1 t2 t3, vs.getD n .none = .ref y ∧ h.get? y = some (matchObj da [.int (bs.getD n (0, 0, 0)).1 t1, .int (bs.getD n (0, 0, 0)).2.1 t2, .int (bs.getD n (0, 0, 0)).2.2 t3]) := by
  induction x with
  | nil => intro n hn; simp at hn
  | cons hx r ih =>
    intro n hn
    cases n with
    | zero => exact ⟨_, _, _, _, _, rfl, hx⟩
    | succ n =>
      obtain ⟨y, da, t1, t2, t3, e1, e2⟩ := ih (n := n) (by simpa using hn)
      exact ⟨y, da, t1, t2, t3, by simpa using e1, by simpa using e2⟩
theorem MtsAre.of_get {vs : List Value} {bs : List (Nat × Nat × Nat)} : ∀ (ps : List Nat), (∀ n ∈ ps, ∃ y da t1 t2 t3, vs.getD n .none = .ref y ∧ h.get? y = some (matchObj da [.int (bs.getD n (0, 0, 0)).1 t1, .int (bs.getD n (0, 0, 0)).2.1 t2, .int (bs.getD n (0, 0, 0)).2.2 t3])) →
    MtsAre h (ps.map fun i => vs.getD i .none) (ps.map fun i => bs.getD i (0, 0, 0))
  | [], _ => .nil
  | n :: ps, hp => by
    obtain ⟨y, da, t1, t2, t3, e1, e2⟩ := hp n (.head _)
    rw [List.map_cons, List.map_cons, e1]
    exact .cons e2 (MtsAre.of_get ps fun n hn => hp n (.tail _ hn))
theorem MtsAre.keep {vs : List Value} {bs : List (Nat × Nat × Nat)} (x : MtsAre h vs bs) (k : ∀ a da us, h.get? a = some (matchObj da us) → h'.get? a = some (matchObj da us)) : MtsAre h' vs bs := by
  induction x with
  | nil => exact .nil
  | cons hx r ih => exact .cons (k _ _ _ hx) ih
theorem mt_not_list {a b da : Addr} {us vs : List Value} {o : Obj} (ho : h.get? a = some o) (hl : IsLst o vs) (hb : h.get? b = some (matchObj da us)) : b ≠ a := fun q => by
  obtain ⟨n, rfl⟩ := hl
  rw [q, ho] at hb
  cases hb
theorem MtsAre.snoc {x da : Addr} {i j k : Nat} {t1 t2 t3 : Tok} {vs : List Value} {bs : List (Nat × Nat × Nat)} (r : MtsAre h vs bs) (hx : h.get? x = some (matchObj da [.int i t1, .int j t2, .int k t3])) : MtsAre h (vs ++ [.ref x]) (bs ++ [(i, j, k)]) := by
  induction r with
  | nil => exact .cons hx .nil
  | cons hy r ih => exact .cons hy ih

theorem sort_short {s : Shared} {E : Value → Shared → Prop} {a : Addr} {vs : List Value} {n : Nat} {P : PySem.Fin → Shared → Prop} (ho : s.heap.get? a = some (seqObj "list" vs.toArray n)) (h2 : vs.length < 2)
    (q : ∀ h' n', Sub [a] s.heap h' → h'.get? a = some (seqObj "list" vs.toArray n') → P (.done (.ret .none)) { s with heap := h' }) : wpAny (model prog w) A (Builtin.«list.sort» ⟨[.ref a], []⟩) P E s := by
  rw [list_sort_plain]
  have ha : a < s.heap.objs.size := Heap.lt_size ho
  refine wpAny_bind (listItems_at ho rfl ?_)
  refine wpAny_bind (listUpdate_at ho rfl ?_ (by rw [List.size_toArray, sizeLine_eq]; (first | lia | omega)) (Nat.zero_le _))
  have s1 := Heap.SameBut.update s.heap a (Obj.mapSeq fun _ => (#[] : Array Value))
  obtain ⟨e1, ho1⟩ : ∃ e1, (s.heap.update a (Obj.mapSeq fun _ => #[])).get? a = some (seqObj "list" #[] e1) := ⟨_, get?_update_seq ho (fun _ => #[])⟩
  refine wpAny_bind (seqEpoch_at ho1 rfl ?_)
  refine wpAny_bind (wpAny_newTuple ?_ (by show vs.length ≤ _; rw [sizeLine_eq]; (first | lia | omega)))
  refine wpAny_bind (wpAny_newList ?_ (Nat.zero_le _))
  refine wpAny_holding ?_
  have ho6 := Heap.get?_push_of_some (seqObj "list" #[] 0) (Heap.get?_push_of_some (seqObj "tuple" vs.toArray 0) ho1)
  show wpAny (model prog w) A _ P E { s with heap := ((s.heap.update a (Obj.mapSeq fun _ => #[])).push (seqObj "tuple" vs.toArray 0)).push (seqObj "list" #[] 0) }
  dsimp only
  have hn2 : vs.toArray.size < 2 := by rw [List.size_toArray]; exact h2
  rw [if_pos hn2, if_pos hn2]
  refine wpAny_bind (wpAny_pure ?_)
  rw [StateT.run_pure]
  refine wpAny_bind (wpAny_pure ?_)
  dsimp only
  refine wpAny_bind (seqEpoch_at ho6 rfl ?_)
  have e3 : (vs.toArray.zip vs.toArray).map (·.2) = vs.toArray := by
    apply Array.toList_inj.mp
    simp only [Array.toList_map, Array.toList_zip]
    exact List.map_snd_zip (Nat.le_refl _)
  refine wpAny_bind (listUpdate_at ho6 rfl ?_ (Nat.zero_le _) (by show (Array.map _ _).size ≤ _; rw [e3, List.size_toArray, sizeLine_eq]; (first | lia | omega)))
  simp only [bne_self_eq_false, Bool.false_eq_true, if_false]
  refine wpAny_pure ?_
  show P _ { s with heap := (((s.heap.update a (Obj.mapSeq fun _ => #[])).push (seqObj "tuple" vs.toArray 0)).push (seqObj "list" #[] 0)).update a (Obj.mapSeq fun _ => (vs.toArray.zip vs.toArray).map (·.2)) }
  rw [e3]
  refine q _ _ (fun b o nb eb => ?_) (get?_update_seq ho6 (fun _ => vs.toArray))
  have nb' : b ≠ a := by simpa using nb
  exact ((Heap.SameBut.update _ a _).2 b nb').trans (Heap.get?_push_of_some _ (Heap.get?_push_of_some _ ((s1.2 b nb').trans eb)))
theorem fst_ne {bs : List (Nat × Nat × Nat)} (hd : (bs.map (·.1)).Nodup) {i j : Nat} (hi : i < bs.length) (hj : j < bs.length) (hij : i ≠ j) : (bs.getD i (0, 0, 0)).1 ≠ (bs.getD j (0, 0, 0)).1 := by
  have nd := List.pairwise_iff_getElem.mp hd
  have e1 : bs.getD i (0, 0, 0) = bs[i] := by simp [hi]
  have e2 : bs.getD j (0, 0, 0) = bs[j] := by simp [hj]
  rw [e1, e2]
  rcases Nat.lt_or_gt_of_ne hij with z | z
  · have := nd i j (by simpa using hi) (by simpa using hj) z
    rwa [List.getElem_map, List.getElem_map] at this
  · have := nd j i (by simpa using hj) (by simpa using hi) z
    rw [List.getElem_map, List.getElem_map] at this
    exact this.symm
theorem t_sortM {L a : Addr} {m : Str → Option Value} {o : Obj} {vs : List Value} {bs : List (Nat × Nat × Nat)} {Q : Value → Heap → Prop} (hu : A.units + 1 < cLine) (X : ∀ h', Sub [L, a] h h' → (frag w.params).In h') (hn : h.Ns L m) (ho : h.get? a = some o) (hl : IsLst o vs) (h64 : vs.length < 64) (hm : MtsAre h vs bs) (hd : (bs.map (·.1)).Nodup)
    (q : ∀ h' o' vs' bs', Sub [L, a] h h' → h'.Ns L m → h'.get? a = some o' → IsLst o' vs' → MtsAre h' vs' bs' → bs'.Perm bs → bs'.Pairwise (fun x y => x.1 < y.1) → (∃ ps : List Nat, (∀ n ∈ ps, n < vs.length) ∧ vs' = ps.map (fun i => vs.getD i .none) ∧ bs' = ps.map (fun i => bs.getD i (0, 0, 0))) → Q .none h') : T prog w A (call (.builtin "list.sort") [.ref a]) h Q := fun s es => by
  subst es
  obtain ⟨n, rfl⟩ := hl
  have haL : a ≠ L := fun e => by
    obtain ⟨oL, _, _, e1, e2, _⟩ := hn
    rw [← e, ho] at e1; cases e1; cases e2
  refine wpAny_call_entry slot_list_sort ⟨_, ho, rfl⟩ entry_list_sort ?_ (args_list_sort _)
  by_cases h2 : vs.length < 2
  · refine sort_short ho h2 fun h' n' s' g' => ⟨_, rfl, h', s.toks, rfl, q h' _ vs bs (fun b ob nb eb => s' b ob (by simp at nb ⊢; exact nb.2) eb) ?_ g' ⟨n', rfl⟩ (hm.keep fun b da us eb => s' _ _ (by simpa using mt_not_list ho ⟨n, rfl⟩ eb) eb) (.refl _) ?_ ?_⟩
    · obtain ⟨oL, b1, b2, b3, b4⟩ := hn
      exact ⟨oL, b1, b2, s' _ _ (by simpa using haL.symm) b3, b4⟩
    have hbl := hm.length
    match bs, hbl with
    | [], _ => exact .nil
    | [_], _ => exact List.pairwise_singleton _ _
    | _ :: _ :: _, e => simp at e; (first | lia | omega)
    refine ⟨List.range vs.length, fun n hn => by simpa using hn, ?_, ?_⟩
    · refine List.ext_getElem (by first | walk_at "mem" | simp) fun k h1 h2 => ?_
      simp [h1]
    · refine List.ext_getElem (by simp [hm.length]) fun k h1 h2 => ?_
      simp [h1]
  · obtain ⟨pre, post, e0, x1, x2⟩ := all_split ho haL
    have N := newsAll (h := s.heap) (L := L)
    rw [e0] at N
    have N₀ : News noHeap L s.heap (pre ++ post) := fun p hp => N p ((List.mem_append.mp hp).elim (fun q => List.mem_append_left _ q) fun q => List.mem_append_right _ (.tail _ q))
    have off : ∀ p ∈ pre ++ post, p.1 ≠ a := fun p hp => (List.mem_append.mp hp).elim (x1 p) (x2 p)
    have inAll : ∀ b o', b ≠ a → b ≠ L → s.heap.get? b = some o' → (b, o') ∈ pre ++ post := fun b o' nb nL eb => by
      have := mem_allBut.mpr ⟨nL, eb⟩
      rw [e0] at this
      rcases List.mem_append.mp this with z | z
      · exact List.mem_append_left _ z
      · rcases List.mem_cons.mp z with z | z
        · exact absurd (Prod.mk.inj z).1 nb
        · exact List.mem_append_right _ z
    have mL : ∀ {b da us}, s.heap.get? b = some (matchObj da us) → b ≠ L := fun eb z => by
      obtain ⟨oL, _, _, e1, e2, _⟩ := hn
      rw [← z, eb] at e1; cases e1; cases e2
    have subOf : ∀ {h' : Heap} {o'}, Fr noHeap L h' m → News noHeap L h' ((a, o') :: (pre ++ post)) → Sub [L, a] s.heap h' := fun F' N' b ob nb eb => (N' (b, ob) (.tail _ (inAll b ob (fun z => nb (by simp [z])) (fun z => nb (by simp [z])) eb))).1
    have mts : ∀ {h' : Heap} {o'}, Fr noHeap L h' m → News noHeap L h' ((a, o') :: (pre ++ post)) → MtsAre h' vs bs := fun F' N' => hm.keep fun b da us eb => subOf F' N' b _ (by simp [mt_not_list ho ⟨n, rfl⟩ eb, mL eb]) eb
    refine kas_list_sort (T := .ref aMt) (news := pre ++ post) (frAll hn) N₀ ho haL (noHeap_get _) off (by (first | lia | omega)) h64 ?_ (by decide) (by decide) ?_
    · intro e1 h' F' N' v hv
      obtain ⟨k, hk, rfl⟩ := List.getElem_of_mem hv
      obtain ⟨y, da, t1, t2, t3, e1, e2⟩ := (mts F' N').get hk
      have : vs[k] = .ref y := by rw [← e1]; simp [hk]
      rw [this]
      exact (Looks.ld e2).andThen .now
    · intro e1 h' F' N'
      have M := mts F' N'
      have hbl := M.length
      refine Okk.wp (lt := ltk fun k => ((bs.getD k (0, 0, 0)).1 : Int)) (n := vs.length) (Good := fun s' => s' = { s with heap := h' }) (P := fun r => PP vs.length r ∧ Asc (fun k => ((bs.getD k (0, 0, 0)).1 : Int)) r vs.length) ?_ ?_ (ok_sort ?_ (by (first | lia | omega))) rfl
      · rintro i j C s' hi hj rfl hC
        obtain ⟨y, da, t1, t2, t3, e1, e2⟩ := M.get hi
        obtain ⟨y', da', u1, u2, u3, e1', e2'⟩ := M.get hj
        show wpAny _ _ (keyLt' oneType' (vs.getD i .none) (vs.getD j .none)) _ _ _
        rw [e1, e1']
        refine key_lt hu (X _ (subOf F' N')) e2 e2' ?_
        have key : (if ((bs.getD i (0, 0, 0)).1 : Int) = (bs.getD j (0, 0, 0)).1 then if ((bs.getD i (0, 0, 0)).2.1 : Int) = (bs.getD j (0, 0, 0)).2.1 then decide (((bs.getD i (0, 0, 0)).2.2 : Int) < (bs.getD j (0, 0, 0)).2.2) else decide (((bs.getD i (0, 0, 0)).2.1 : Int) < (bs.getD j (0, 0, 0)).2.1) else decide (((bs.getD i (0, 0, 0)).1 : Int) < (bs.getD j (0, 0, 0)).1)) = ltk (fun k => ((bs.getD k (0, 0, 0)).1 : Int)) i j := by
          by_cases hij : i = j
          · subst hij; simp [ltk]
          · rw [if_neg (by have := fst_ne hd (by (first | lia | omega)) (by (first | lia | omega)) hij; (first | lia | omega))]; rfl
        rw [key]
        exact hC _ rfl
      · rintro p s' rfl ⟨hp, ha⟩
        refine ⟨(a, seqObj "list" #[] e1) :: (pre ++ post), fun o => (a, o) :: (pre ++ post), F', N', .head off, fun h'' c F'' N'' => ⟨_, rfl, h'', s.toks, rfl, ?_⟩⟩
        have M' := mts F'' N''
        refine q h'' _ _ (p.toList.map fun i => bs.getD i (0, 0, 0)) ?_ ?_ (N'' _ (.head _)).1 ⟨c, rfl⟩ (MtsAre.of_get _ fun k hk => M'.get ?_) ?_ ?_ ⟨p.toList, fun k hk => by simpa using (Array.perm_iff_toList_perm.mp hp.perm).mem_iff.mp hk, rfl, rfl⟩
        · exact subOf F'' N''
        · exact F''.ns
        · have := (Array.perm_iff_toList_perm.mp hp.perm).mem_iff.mp hk
          simpa using this
        · have e : (List.range vs.length).map (fun i => bs.getD i (0, 0, 0)) = bs := by
            refine List.ext_getElem (by simp [hbl]) fun k h1 h2 => ?_
            simp [h2]
          have := (Array.perm_iff_toList_perm.mp hp.perm).map (fun i => bs.getD i (0, 0, 0))
          simp only at this
          rwa [e] at this
        · refine List.pairwise_iff_getElem.mpr fun i j hi hj hij => ?_
          have hps := hp.size
          have hj' : j < p.size := by simpa using hj
          have hi' : i < p.size := by simpa using hi
          have := ha i j hij (by (first | lia | omega))
          simp only [kk, Array.getD, hi', hj', dite_true] at this
          simp only [List.getElem_map, Array.getElem_toList]
          exact_mod_cast this
      · intro i j hi hj hij
        have := fst_ne hd (i := i) (j := j) (by (first | lia | omega)) (by (first | lia | omega)) hij
        (first | lia | omega)
end
end Mine

end
section
open PySem PySem.W PyProof.Rows PySem.Calls
set_option Elab.async false
set_option linter.unusedVariables false
set_option maxRecDepth 100000
set_option maxHeartbeats 4000000
namespace Mine
section
variable {prog : Program} {w : World} {A : Around} {E : Value → Shared → Prop} {s : Shared} {h h' h₀ : Heap}
theorem it_find (P : Params) : findIn (frag P) (.ref aMt) "__iter__" = some (some (.builtin "tuple.__iter__")) := by kernel_rfl!
theorem it_kind : builtinKind "tuple.__iter__" = some .slot := by kernel_rfl
theorem it_split : splitId "tuple.__iter__" = some ("tuple", "__iter__") := by decide +kernel
theorem iter_mt {x da : Addr} {vs : List Value} {Q : Value → Shared → Prop} (X : (frag w.params).In s.heap) (hx : s.heap.get? x = some (matchObj da vs))
    (q : Q (.ref s.heap.objs.size) { s with heap := s.heap.push { cls := .type "tuple_iterator", data := .fields #[.ref x, .int 0 0] } }) : wpAny (model prog w) A (pyIter (.ref x)) Q E s := by
  have tx : Looks (model prog w) s.heap (typeOf (.ref x)) (.ref aMt) := (Looks.ld hx).andThen .now
  have ix : Looks (model prog w) s.heap (isInstance (.ref x) (.type "tuple")) true := tx.andThen (looks_mroIn X (mro_tuple w.params))
  have sx : Looks (model prog w) s.heap (specialOf (.ref x) "__iter__") (some (.builtin "tuple.__iter__")) := tx.andThen (looks_findIn X (it_find w.params))
  have hb := PySem.F.slot_tuple_iter.bind (.ref x)
  have fin : ∀ (Q' : Option Value → Shared → Prop), Q' (some (.ref s.heap.objs.size)) { s with heap := s.heap.push { cls := .type "tuple_iterator", data := .fields #[.ref x, .int 0 0] } } → wpAny (model prog w) A (call (.builtin "tuple.__iter__") [.ref x] >>= fun v => pure (some v)) Q' E s := fun Q' q' => by
    refine wpAny_bind (wpAny_call (codeAny_call_builtin PySem.F.slot_tuple_iter.plain PySem.F.entry_tuple_iter (@check_slot (model prog w) _ _ _ "tuple.__iter__" "tuple" "__iter__" (.ref x) [] [] _ it_kind it_split ix (PySem.F.args_tuple_iter_1 _) ?_)))
    show wpAny _ _ (do ret (← newFields "tuple_iterator" [.ref x, rawInt 0])) _ _ s
    exact wpAny_bind (wpAny_newObj_type (wpAny_pure (wpAny_pure q')))
  unfold pyIter
  refine wpAny_bind (sx.here ?_)
  dsimp only
  unfold callSpecialIfBoundUnlessNone? bindSpecialIfBound?
  have next : ∀ s' : Shared, s' = { s with heap := s.heap.push { cls := .type "tuple_iterator", data := .fields #[.ref x, .int 0 0] } } → wpAny (model prog w) A (do match ← specialOf (.ref s.heap.objs.size) "__next__" with
      | none => do rule "iter.non-iterator"; raiseError "TypeError" s!"iter() returned non-iterator of type '{← typeNameOf (.ref s.heap.objs.size)}'"
      | some _ => pure (.ref s.heap.objs.size)) Q E s' := by
    rintro s' rfl
    refine wpAny_bind (wpAny_specialOf (T := "tuple_iterator") ⟨_, Heap.get?_push_size _ rfl, rfl⟩ slot_tupleiter_next.lookup ?_)
    exact wpAny_pure q
  refine wpAny_bind (wpAny_holding (wpAny_bind (wpAny_bind (sx.here ?_))))
  refine wpAny_bind (wpAny_askSetting (wpAny_ite ?_))
  split
  · refine wpAny_bind (wpAny_of_eq hb (wpAny_pure ?_))
    show wpAny _ _ (if (Value.builtin "tuple.__iter__" == Value.none) = true then _ else _) _ _ _
    rw [if_neg (by decide)]
    exact fin _ (next _ rfl)
  · refine wpAny_tryCatch (wpAny_bind (wpAny_of_eq hb (wpAny_pure ?_)))
    show wpAny _ _ (if (Value.builtin "tuple.__iter__" == Value.none) = true then _ else _) _ _ _
    rw [if_neg (by decide)]
    exact fin _ (next _ rfl)
theorem next_item {it t : Addr} {i n : Nat} {ob : Obj} {items : Array Value} {v : Value} {Q : Option Value → Shared → Prop} (hit : IsTupIter s.heap it t i) (ht : s.heap.get? t = some ob) (hdt : ob.data = .seq items n) (hx : items[i]? = some v)
    (q : ∀ h', IsTupIter h' it t (i + 1) → Heap.SameBut it s.heap h' → Q (some v) { s with heap := h' }) : wpAny (model prog w) A (pyNext (.ref it)) Q E s := by
  obtain ⟨o, ho, hc, hd⟩ := id hit
  unfold pyNext
  refine wpAny_bind (wpAny_attempt (wpAny_callSpecial?_slot (name := Str.ofString "__next__") hit.typeIs slot_tupleiter_next (wpAny_call_entry slot_tupleiter_next hit.typeIs entry_tupleiter_next ?_ (args_tupleiter_next _))))
  show wpAny _ _ (field (.ref it) 0 >>= _) _ _ s
  refine wpAny_bind (wpAny_field ho hd (x := .ref t) rfl ?_)
  show wpAny _ _ (if (Value.ref t == Value.none) = true then _ else _) _ _ s
  rw [if_neg (show ¬ ((Value.ref t == Value.none) = true) from Bool.false_ne_true)]
  show wpAny _ _ (field (.ref it) 1 >>= _) _ _ s
  refine wpAny_bind (wpAny_field ho hd (x := .int i 0) rfl ?_)
  show wpAny _ _ (seqItems? (.ref t) >>= _) _ _ s
  refine wpAny_bind (wpAny_seqItems ht hdt ?_)
  simp only [Int.toNat_natCast, hx]
  refine wpAny_bind (wpAny_setField ho hd (by first | walk_at "mem" | simp) (wpAny_pure ⟨v, rfl, wpAny_pure (q _ ?_ (Heap.SameBut.update ..))⟩))
  exact ⟨_, Heap.get?_update_self _ ho (Obj.isFreed_of_fields (Obj.data_mapFields hd _)), (Obj.cls_mapFields ..).trans hc, by rw [Obj.data_mapFields hd]; simp [rawInt]⟩
theorem next_none {it t : Addr} {i n : Nat} {ob : Obj} {items : Array Value} {Q : Option Value → Shared → Prop} (hh : A.handled = none) (hit : IsTupIter s.heap it t i) (ht : s.heap.get? t = some ob) (hdt : ob.data = .seq items n) (hx : items[i]? = none)
    (q : ∀ h', Heap.ExtBut it s.heap h' → Q none { s with heap := h' }) : wpAny (model prog w) A (pyNext (.ref it)) Q E s := by
  obtain ⟨o, ho, hc, hd⟩ := id hit
  unfold pyNext
  refine wpAny_bind (wpAny_attempt (wpAny_callSpecial?_slot (name := Str.ofString "__next__") hit.typeIs slot_tupleiter_next (wpAny_call_entry slot_tupleiter_next hit.typeIs entry_tupleiter_next ?_ (args_tupleiter_next _))))
  show wpAny _ _ (field (.ref it) 0 >>= _) _ _ s
  refine wpAny_bind (wpAny_field ho hd (x := .ref t) rfl ?_)
  show wpAny _ _ (if (Value.ref t == Value.none) = true then _ else _) _ _ s
  rw [if_neg (show ¬ ((Value.ref t == Value.none) = true) from Bool.false_ne_true)]
  show wpAny _ _ (field (.ref it) 1 >>= _) _ _ s
  refine wpAny_bind (wpAny_field ho hd (x := .int i 0) rfl ?_)
  show wpAny _ _ (seqItems? (.ref t) >>= _) _ _ s
  refine wpAny_bind (wpAny_seqItems ht hdt ?_)
  simp only [Int.toNat_natCast, hx]
  refine wpAny_bind (wpAny_rule (wpAny_bind (wpAny_setField ho hd (by first | walk_at "mem" | simp) ?_)))
  show wpAny _ _ (newExc (.type "StopIteration") [] >>= _) _ _ _
  refine wpAny_bind ?_
  simp only [newExc, newTuple]
  refine wpAny_bind (wpAny_newObj_type ?_ (by size_fits))
  refine wpAny_bind (m := firstArgMember _ _) (wpAny_of_eq (a := Value.none) (by first | rfl | (simp only [firstArgMember]; rfl)) ?_)
  refine wpAny_newObj_type ?_ (by size_fits)
  simp only [raiseNew]
  refine wpAny_bind (wpAny_handled ?_)
  first | rw [show A.in1.handled = none from hh] | rw [hh]
  refine wpAny_bind (wpAny_pure (wpAny_throw ?_))
  refine wpAny_bind (wpAny_isInstance (T := "StopIteration") (b := true) ⟨_, Heap.get?_push_size _ rfl, rfl⟩ isSubtype_stop ?_)
  exact wpAny_pure (q _ (((Heap.SameBut.update ..).extBut.push _).push _))
theorem draw_items {it t : Addr} {n₀ : Nat} {ob : Obj} {items : Array Value} (hne : t ≠ it) (hdt : ob.data = .seq items n₀) : ∀ (n i : Nat) (s : Shared) (Q : List Value → Shared → Prop), IsTupIter s.heap it t i → s.heap.get? t = some ob → i + n ≤ items.size →
    (∀ h', IsTupIter h' it t (i + n) → Heap.SameBut it s.heap h' → Q ((items.toList.drop i).take n) { s with heap := h' }) → wpAny (model prog w) A (draw (.ref it) n) Q E s
  | 0, i, s, Q, hit, _, _, q => by
    show wpAny _ _ (pure []) Q E s
    exact wpAny_pure (by simpa using q s.heap hit (Heap.SameBut.refl ..))
  | n + 1, i, s, Q, hit, ht, hle, q => by
    have hlt : i < items.size := by (first | lia | omega)
    show wpAny _ _ (pyNext (.ref it) >>= _) Q E s
    refine wpAny_bind (next_item hit ht hdt (v := items[i]) (by simp [hlt]) fun h₁ hit₁ hs₁ => ?_)
    refine wpAny_bind (wpAny_holding (draw_items hne hdt n (i + 1) _ _ hit₁ ((hs₁.2 t hne).trans ht) (by (first | lia | omega)) fun h₂ hit₂ hs₂ => wpAny_pure ?_))
    have hd : items.toList.drop i = items[i] :: items.toList.drop (i + 1) := by simp [List.drop_eq_getElem_cons, hlt]
    have := q h₂ (by rw [show i + (n + 1) = i + 1 + n by (first | lia | omega)]; exact hit₂) (hs₁.trans hs₂)
    rw [hd, List.take_succ_cons] at this
    exact this
theorem t_unpackM {x da : Addr} {vs : List Value} {n : Nat} {Q : List Value → Heap → Prop} (hh : A.handled = none) (X : (frag w.params).In h) (hx : h.get? x = some (matchObj da vs)) (hn : n = vs.length) (q : ∀ h', Sub [] h h' → Q vs h') : T prog w A (unpackItems (.ref x) n none) h Q := fun s es => by
  subst es hn
  have hlt : x ≠ s.heap.objs.size := Nat.ne_of_lt (Heap.lt_size hx)
  have tx : Looks (model prog w) s.heap (typeOf (.ref x)) (.ref aMt) := (Looks.ld hx).andThen .now
  have sx : Looks (model prog w) s.heap (specialOf (.ref x) "__iter__") (some (.builtin "tuple.__iter__")) := tx.andThen (looks_findIn X (it_find w.params))
  unfold unpackItems
  refine wpAny_bind ?_
  unfold notIterableAtAll
  refine wpAny_bind (sx.here ?_)
  refine wpAny_pure ?_
  simp only [Bool.false_eq_true, if_false]
  refine wpAny_bind (wpAny_holding (iter_mt X hx ?_))
  refine wpAny_bind (wpAny_holding (draw_items hlt (items := vs.toArray) rfl vs.length 0 _ _ ⟨_, Heap.get?_push_size _ rfl, rfl, rfl⟩ (Heap.get?_push_of_some _ hx) (by first | walk_at "mem" | simp) fun h₁ hit₁ hs₁ => ?_))
  have hall : List.take vs.length (List.drop 0 vs.toArray.toList) = vs := by simp
  rw [hall]
  rw [if_neg (by first | walk_at "mem" | simp)]
  have ht₁ := (hs₁.2 x hlt).trans (Heap.get?_push_of_some _ hx)
  refine wpAny_bind (wpAny_holding (next_none hh hit₁ ht₁ (items := vs.toArray) rfl (by first | walk_at "mem" | simp) fun h₂ he₂ => ?_))
  simp only [Option.isSome_none, Bool.false_eq_true, if_false]
  refine wpAny_pure ⟨h₂, s.toks, rfl, q h₂ fun b o _ e => ?_⟩
  have hb : b ≠ s.heap.objs.size := Nat.ne_of_lt (Heap.lt_size e)
  exact he₂ b o hb (hs₁.extBut b o hb (Heap.get?_push_of_some _ e))
end
end Mine

end
section
set_option linter.unusedVariables false
namespace Mine
section
variable (a b : List Int) (alo ahi blo bhi : Nat)
noncomputable def run : Nat → Nat → Nat
  | i + 1, j + 1 => if alo ≤ i ∧ blo ≤ j ∧ i < a.length ∧ a[i]? = b[j]? then run i j + 1 else 0
  | _, _ => 0
variable {a b alo ahi blo bhi}
theorem run_fits : ∀ {i j : Nat}, 0 < run a b alo blo i j → alo + run a b alo blo i j ≤ i ∧ blo + run a b alo blo i j ≤ j
  | 0, j, h => by simp [run] at h
  | i + 1, 0, h => by simp [run] at h
  | i + 1, j + 1, h => by
    rw [run] at h ⊢
    split at h
    · rename_i c
      rw [if_pos c]
      by_cases z : 0 < run a b alo blo i j
      · have := run_fits z; (first | lia | omega)
      · (first | lia | omega)
    · (first | lia | omega)
theorem run_eq : ∀ {i j t : Nat}, t < run a b alo blo i j → i - 1 - t < a.length ∧ a[i - 1 - t]? = b[j - 1 - t]?
  | 0, j, t, h => by simp [run] at h
  | i + 1, 0, t, h => by simp [run] at h
  | i + 1, j + 1, t, h => by
    rw [run] at h
    split at h
    · rename_i c
      cases t with
      | zero => simpa using c.2.2
      | succ t =>
        have := run_eq (i := i) (j := j) (t := t) (by (first | lia | omega))
        have e1 : i + 1 - 1 - (t + 1) = i - 1 - t := by (first | lia | omega)
        have e2 : j + 1 - 1 - (t + 1) = j - 1 - t := by (first | lia | omega)
        rw [e1, e2]; exact this
    · (first | lia | omega)
theorem run_max : ∀ (k i j : Nat), alo + k ≤ i → blo + k ≤ j → (∀ t, t < k → i - 1 - t < a.length ∧ a[i - 1 - t]? = b[j - 1 - t]?) → k ≤ run a b alo blo i j
  | 0, i, j, _, _, _ => Nat.zero_le _
  | k + 1, 0, j, h, _, _ => by (first | lia | omega)
  | k + 1, i + 1, 0, _, h, _ => by (first | lia | omega)
  | k + 1, i + 1, j + 1, h1, h2, h3 => by
    have h0 := h3 0 (by (first | lia | omega))
    have := run_max k i j (by (first | lia | omega)) (by (first | lia | omega)) fun t ht => by
      have := h3 (t + 1) (by (first | lia | omega))
      have e1 : i + 1 - 1 - (t + 1) = i - 1 - t := by (first | lia | omega)
      have e2 : j + 1 - 1 - (t + 1) = j - 1 - t := by (first | lia | omega)
      rwa [e1, e2] at this
    rw [run, if_pos ⟨by (first | lia | omega), by (first | lia | omega), by simpa using h0⟩]
    (first | lia | omega)
variable (a b alo blo)
structure Sofar (vis : Nat → Nat → Prop) (bi bj k : Nat) : Prop where
  zero : k = 0 → bi = alo ∧ bj = blo
  hit : 0 < k → ∃ i j, vis i j ∧ run a b alo blo (i + 1) (j + 1) = k ∧ bi + k = i + 1 ∧ bj + k = j + 1 ∧ ∀ i' j', vis i' j' → run a b alo blo (i' + 1) (j' + 1) = k → i < i' ∨ (i = i' ∧ j ≤ j')
  le : ∀ i' j', vis i' j' → run a b alo blo (i' + 1) (j' + 1) ≤ k
structure Best (ahi bhi i j k : Nat) : Prop where
  inA : alo ≤ i ∧ i + k ≤ ahi
  inB : blo ≤ j ∧ j + k ≤ bhi
  eq : ∀ t, t < k → i + t < a.length ∧ a[i + t]? = b[j + t]?
  max : ∀ i' j' k', alo ≤ i' → i' + k' ≤ ahi → blo ≤ j' → j' + k' ≤ bhi → (∀ t, t < k' → i' + t < a.length ∧ a[i' + t]? = b[j' + t]?) → k' < k ∨ (k' = k ∧ (i < i' ∨ (i = i' ∧ j ≤ j')))
variable {a b alo blo}
theorem Sofar.start {vis : Nat → Nat → Prop} (hv : ∀ i j, ¬ vis i j) : Sofar a b alo blo vis alo blo 0 := ⟨fun _ => ⟨rfl, rfl⟩, fun h => absurd h (by (first | lia | omega)), fun i j h => absurd h (hv i j)⟩
theorem Sofar.better {vis vis' : Nat → Nat → Prop} {bi bj k i j : Nat} (s : Sofar a b alo blo vis bi bj k) (hv : ∀ i' j', vis' i' j' → vis i' j' ∨ run a b alo blo (i' + 1) (j' + 1) = 0 ∨ (i' = i ∧ j' = j)) (hn : vis' i j) (hr : k < run a b alo blo (i + 1) (j + 1)) :
    Sofar a b alo blo vis' (i + 1 - run a b alo blo (i + 1) (j + 1)) (j + 1 - run a b alo blo (i + 1) (j + 1)) (run a b alo blo (i + 1) (j + 1)) := by
  have f := run_fits (a := a) (b := b) (alo := alo) (blo := blo) (i := i + 1) (j := j + 1) (by (first | lia | omega))
  refine ⟨fun h => by (first | lia | omega), fun _ => ⟨i, j, hn, rfl, by (first | lia | omega), by (first | lia | omega), fun i' j' v e => ?_⟩, fun i' j' v => ?_⟩
  · rcases hv i' j' v with x | x | x
    · have := s.le i' j' x; (first | lia | omega)
    · (first | lia | omega)
    · (first | lia | omega)
  · rcases hv i' j' v with x | x | x
    · have := s.le i' j' x; (first | lia | omega)
    · (first | lia | omega)
    · obtain ⟨rfl, rfl⟩ := x; (first | lia | omega)
theorem Sofar.same {vis vis' : Nat → Nat → Prop} {bi bj k i j : Nat} (s : Sofar a b alo blo vis bi bj k) (hv : ∀ i' j', vis' i' j' → vis i' j' ∨ run a b alo blo (i' + 1) (j' + 1) = 0 ∨ (i' = i ∧ j' = j)) (hm : ∀ i' j', vis i' j' → vis' i' j') (ho : ∀ i' j', vis i' j' → i' < i ∨ (i' = i ∧ j' ≤ j))
    (hr : run a b alo blo (i + 1) (j + 1) ≤ k) : Sofar a b alo blo vis' bi bj k := by
  refine ⟨s.zero, fun hk => ?_, fun i' j' v => ?_⟩
  · obtain ⟨p, q, h1, h2, h3, h4, h5⟩ := s.hit hk
    refine ⟨p, q, hm p q h1, h2, h3, h4, fun i' j' v e => ?_⟩
    rcases hv i' j' v with x | x | x
    · exact h5 i' j' x e
    · (first | lia | omega)
    · obtain ⟨rfl, rfl⟩ := x
      exact ho p q h1
  · rcases hv i' j' v with x | x | x
    · exact s.le i' j' x
    · (first | lia | omega)
    · obtain ⟨rfl, rfl⟩ := x; exact hr
theorem Sofar.more {vis vis' : Nat → Nat → Prop} {bi bj k : Nat} (s : Sofar a b alo blo vis bi bj k) (hv : ∀ i' j', vis' i' j' → vis i' j' ∨ run a b alo blo (i' + 1) (j' + 1) = 0) (hm : ∀ i' j', vis i' j' → vis' i' j') : Sofar a b alo blo vis' bi bj k := by
  refine ⟨s.zero, fun hk => ?_, fun i' j' v => ?_⟩
  · obtain ⟨p, q, h1, h2, h3, h4, h5⟩ := s.hit hk
    refine ⟨p, q, hm p q h1, h2, h3, h4, fun i' j' v e => ?_⟩
    rcases hv i' j' v with x | x
    · exact h5 i' j' x e
    · (first | lia | omega)
  · rcases hv i' j' v with x | x
    · exact s.le i' j' x
    · (first | lia | omega)
theorem Sofar.best {bi bj k : Nat} (hA : alo ≤ ahi) (hB : blo ≤ bhi) (s : Sofar a b alo blo (fun i j => alo ≤ i ∧ i < ahi ∧ blo ≤ j ∧ j < bhi) bi bj k) : Best a b alo blo ahi bhi bi bj k := by
  have mx : ∀ i' j' k', alo ≤ i' → i' + k' ≤ ahi → blo ≤ j' → j' + k' ≤ bhi → (∀ t, t < k' → i' + t < a.length ∧ a[i' + t]? = b[j' + t]?) → 0 < k' → k' ≤ run a b alo blo (i' + k' - 1 + 1) (j' + k' - 1 + 1) := by
    intro i' j' k' h1 h2 h3 h4 h5 h6
    refine run_max k' _ _ (by (first | lia | omega)) (by (first | lia | omega)) fun t ht => ?_
    have := h5 (k' - 1 - t) (by (first | lia | omega))
    have e1 : i' + k' - 1 + 1 - 1 - t = i' + (k' - 1 - t) := by (first | lia | omega)
    have e2 : j' + k' - 1 + 1 - 1 - t = j' + (k' - 1 - t) := by (first | lia | omega)
    rw [e1, e2]; exact this
  by_cases hk : 0 < k
  · obtain ⟨i, j, v, hr, e1, e2, first⟩ := s.hit hk
    have f := run_fits (a := a) (b := b) (alo := alo) (blo := blo) (i := i + 1) (j := j + 1) (by (first | lia | omega))
    refine ⟨by (first | lia | omega), by (first | lia | omega), fun t ht => ?_, fun i' j' k' h1 h2 h3 h4 h5 => ?_⟩
    · have := run_eq (a := a) (b := b) (alo := alo) (blo := blo) (i := i + 1) (j := j + 1) (t := k - 1 - t) (by (first | lia | omega))
      have e3 : i + 1 - 1 - (k - 1 - t) = bi + t := by (first | lia | omega)
      have e4 : j + 1 - 1 - (k - 1 - t) = bj + t := by (first | lia | omega)
      rwa [e3, e4] at this
    · by_cases h6 : 0 < k'
      · have m1 := mx i' j' k' h1 h2 h3 h4 h5 h6
        have m2 := s.le (i' + k' - 1) (j' + k' - 1) ⟨by (first | lia | omega), by (first | lia | omega), by (first | lia | omega), by (first | lia | omega)⟩
        by_cases h7 : k' = k
        · have := first (i' + k' - 1) (j' + k' - 1) ⟨by (first | lia | omega), by (first | lia | omega), by (first | lia | omega), by (first | lia | omega)⟩ (by (first | lia | omega))
          refine .inr ⟨h7, by (first | lia | omega)⟩
        · exact .inl (by (first | lia | omega))
      · exact .inl (by (first | lia | omega))
  · have hk0 : k = 0 := by (first | lia | omega)
    obtain ⟨e1, e2⟩ := s.zero hk0
    subst e1 e2 hk0
    refine ⟨by (first | lia | omega), by (first | lia | omega), fun t ht => absurd ht (by (first | lia | omega)), fun i' j' k' h1 h2 h3 h4 h5 => ?_⟩
    by_cases h6 : 0 < k'
    · have m1 := mx i' j' k' h1 h2 h3 h4 h5 h6
      have m2 := s.le (i' + k' - 1) (j' + k' - 1) ⟨by (first | lia | omega), by (first | lia | omega), by (first | lia | omega), by (first | lia | omega)⟩
      (first | lia | omega)
    · exact .inr ⟨by (first | lia | omega), by (first | lia | omega)⟩
end
end Mine

end
section
open PySem PySem.W PyProof.Rows PySem.Calls
set_option Elab.async false
set_option linter.unusedVariables false
set_option maxRecDepth 100000
set_option maxHeartbeats 4000000
namespace Mine

section
variable {prog : Program} {w : World} {A : Around} {h h' h₀ : Heap}

noncomputable def places : List Int → Int → Nat → List Int
  | [], _, _ => []
  | n :: r, k, i => if n = k then (i : Int) :: places r k (i + 1) else places r k (i + 1)
theorem places_append : ∀ (ps : List Int) (n k : Int) (i : Nat), places (ps ++ [n]) k i = places ps k i ++ if n = k then [((i + ps.length : Nat) : Int)] else []
  | [], n, k, i => by simp [places]
  | p :: ps, n, k, i => by
    rw [List.cons_append, places, places, places_append ps n k (i + 1)]
    split <;> simp [Nat.add_comm, Nat.add_left_comm]
theorem places_not {ps : List Int} {k : Int} : ∀ {i : Nat}, k ∉ ps → places ps k i = [] := by
  induction ps with
  | nil => intro i _; rfl
  | cons p ps ih =>
    intro i hk
    rw [places, if_neg (fun q => hk (by simp [q])), ih (fun q => hk (.tail _ q))]

structure FamOk (ps : List Int) (kvs : List (Int × Value)) (fam : List (Addr × Obj)) : Prop where
  there : ∀ k ∈ ps, ∃ a o us, valueAt kvs k = some (.ref a) ∧ (a, o) ∈ fam ∧ IsLst o us ∧ IntsAre us (places ps k 0)
  no : ∀ k, k ∉ ps → valueAt kvs k = none
  inj : ∀ k k' a, valueAt kvs k = some (.ref a) → valueAt kvs k' = some (.ref a) → k = k'
  len : kvs.length ≤ ps.length
theorem valueAt_snoc {kvs : List (Int × Value)} {n k : Int} {v : Value} (hn : valueAt kvs n = none) : valueAt (kvs ++ [(n, v)]) k = if k = n then some v else valueAt kvs k := by
  unfold valueAt at *
  rw [List.find?_append]
  by_cases e : k = n
  · subst e
    have : kvs.find? (fun kv => decide (kv.1 = k)) = none := by
      cases q : kvs.find? (fun kv => decide (kv.1 = k)) with
      | none => rfl
      | some x => rw [q] at hn; cases hn
    simp [this]
  · have : ¬ n = k := fun q => e q.symm
    simp [e, this]
theorem intsAre_snoc {us : List Value} {qs : List Int} {n : Int} {t : Tok} (x : IntsAre us qs) : IntsAre (us ++ [.int n t]) (qs ++ [n]) := by
  induction x with
  | nil => exact .cons n t .nil
  | cons a b _ ih => exact .cons a b ih
theorem FamOk.old {ps : List Int} {kvs : List (Int × Value)} {fam : List (Addr × Obj)} (F : FamOk ps kvs fam) {n : Int} {a : Addr} {o o' : Obj} {us : List Value} {t : Tok} {j : Nat} (hn : valueAt kvs n = some (.ref a)) (hj : fam[j]? = some (a, o))
    (hl : IsLst o us) (hu : IntsAre us (places ps n 0)) (hl' : IsLst o' (us ++ [.int ps.length t])) (hp : n ∈ ps) : FamOk (ps ++ [n]) kvs (fam.set j (a, o')) where
  there := fun k hk => by
    by_cases e : k = n
    · subst e
      refine ⟨a, o', _, hn, List.mem_iff_getElem?.mpr ⟨j, ?_⟩, hl', ?_⟩
      · have : j < fam.length := by
          rcases Nat.lt_or_ge j fam.length with y | y
          · exact y
          · rw [List.getElem?_eq_none y] at hj; cases hj
        rw [List.getElem?_set_self this]
      · rw [places_append, if_pos rfl, Nat.zero_add]
        exact intsAre_snoc hu
    · have hk' : k ∈ ps := by
        rcases List.mem_append.mp hk with y | y
        · exact y
        · exact absurd (by simpa using y) e
      obtain ⟨b, ob, us', h1, h2, h3, h4⟩ := F.there k hk'
      refine ⟨b, ob, us', h1, ?_, h3, ?_⟩
      · obtain ⟨i, hi⟩ := List.mem_iff_getElem?.mp h2
        refine List.mem_iff_getElem?.mpr ⟨i, ?_⟩
        rw [List.getElem?_set_ne, hi]
        intro q
        subst q
        rw [hj] at hi
        have : a = b := (Prod.mk.inj (Option.some.inj hi)).1
        subst this
        exact e (F.inj k n a h1 hn)
      · rw [places_append, if_neg (fun q => e q.symm), List.append_nil]; exact h4
  no := fun k hk => F.no k fun q => hk (List.mem_append_left _ q)
  inj := F.inj
  len := by have := F.len; rw [List.length_append]; (first | lia | omega)
theorem FamOk.new {ps : List Int} {kvs : List (Int × Value)} {fam : List (Addr × Obj)} (F : FamOk ps kvs fam) {n : Int} {a : Addr} {o' : Obj} {t : Tok} (hn : valueAt kvs n = none) (ha : a ∉ fam.map (·.1))
    (hl' : IsLst o' [.int ps.length t]) : FamOk (ps ++ [n]) (kvs ++ [(n, .ref a)]) ((a, o') :: fam) := by
  have hp : n ∉ ps := fun q => by
    obtain ⟨b, _, _, h1, _⟩ := F.there n q
    rw [hn] at h1; cases h1
  have hfam : ∀ k b, valueAt kvs k = some (.ref b) → b ≠ a := fun k b hb q => by
    by_cases e : k ∈ ps
    · obtain ⟨b', ob, us', h1, h2, _⟩ := F.there k e
      rw [h1] at hb
      cases hb
      subst q
      exact ha (List.mem_map.mpr ⟨_, h2, rfl⟩)
    · rw [F.no k e] at hb; cases hb
  refine { there := fun k hk => ?_, no := fun k hk => ?_, inj := fun k k' b h1 h2 => ?_, len := by have := F.len; simp; exact this }
  · rw [valueAt_snoc hn]
    by_cases e : k = n
    · subst e
      refine ⟨a, o', _, if_pos rfl, .head _, hl', ?_⟩
      rw [places_append, if_pos rfl, places_not hp, Nat.zero_add]
      exact .cons _ _ .nil
    · have hk' : k ∈ ps := by
        rcases List.mem_append.mp hk with y | y
        · exact y
        · exact absurd (by simpa using y) e
      obtain ⟨b, ob, us', h1, h2, h3, h4⟩ := F.there k hk'
      refine ⟨b, ob, us', by rw [if_neg e]; exact h1, .tail _ h2, h3, ?_⟩
      rw [places_append, if_neg (fun q => e q.symm), List.append_nil]; exact h4
  · rw [valueAt_snoc hn, if_neg (fun q => hk (by simp [q]))]
    exact F.no k fun q => hk (List.mem_append_left _ q)
  · rw [valueAt_snoc hn] at h1 h2
    by_cases e : k = n
    · by_cases e' : k' = n
      · rw [e, e']
      · rw [if_pos e] at h1; rw [if_neg e'] at h2
        cases h1
        exact absurd rfl (hfam k' _ h2)
    · rw [if_neg e] at h1
      by_cases e' : k' = n
      · rw [if_pos e'] at h2
        cases h2
        exact absurd rfl (hfam k _ h1)
      · rw [if_neg e'] at h2; exact F.inj k k' b h1 h2

theorem chain_turn {x dx d : Addr} {od ob : Obj} {ps : List Int} {kvs : List (Int × Value)} {fam E : List (Addr × Obj)} {env : Env} {m : Str → Option Value} {n : Int} {t t' : Tok} {px : List Stmt}
    (e : EnvOk env) (hk : ∀ y ∈ [Str.ofString "i", Str.ofString "elt", Str.ofString "indices", Str.ofString "b2j"], env.kindOf y = some .local)
    (hm : m (Str.ofString "b2j") = some (.ref d)) (lo : (d == sysModules) = false) (hd : IsDic prog w ob kvs) (hf : FamOk ps kvs fam) (hz : ps.length < 100000)
    (H : S h₀ [dx] env.locals (upd (upd m (Str.ofString "i") (.int ps.length t)) (Str.ofString "elt") (.int n t')) ((dx, od) :: (d, ob) :: fam ++ E) h) :
    T prog w A (execs (match stN (bodyN (stN (bodyN (stN pwBody 5)) 5)) 2 with | .For _ _ b _ _ => b | _ => []) env) h fun f h₃ => match f with
      | .next => ∃ m₂ ob' kvs' fam', (∀ y, y ≠ Str.ofString "i" → y ≠ Str.ofString "elt" → y ≠ Str.ofString "indices" → m₂ y = m y) ∧ IsDic prog w ob' kvs' ∧ FamOk (ps ++ [n]) kvs' fam' ∧ S h₀ [dx] env.locals m₂ ((dx, od) :: (d, ob') :: fam' ++ E) h₃
      | _ => False := by
  have k1 := hk (Str.ofString "i") (by first | walk_at "mem" | simp)
  have k2 := hk (Str.ofString "elt") (by first | walk_at "mem" | simp)
  have k3 := hk (Str.ofString "indices") (by first | walk_at "mem" | simp)
  have k4 := hk (Str.ofString "b2j") (by first | walk_at "mem" | simp)
  have hgd : h.get? d = some ob := H.get (by first | walk_at "mem" | simp)
  refine T.execs_cons (T.Assign_Name (T.Call_method ?_))
  refine T.Name e H (by walk_at "look") ?_ k4 (by decide +kernel)
  refine t_getMethodB hgd hd.cls.1 hd.cls.2 PySem.F.plainAttrs_dict PySem.F.slot_dict_setdefault PySem.F.type_dict_setdefault ?_
  refine T.callWith ?_ rfl
  refine T.Name e H (by walk_at "look") ?_ k2 (by decide +kernel)
  refine t_List ?_ rfl
  refine ⟨by decide, fun a₀ h₁ o₀ s₁ n₁ g₁ l₁ => ⟨Keeps.builtin, ?_⟩⟩
  have H₁ := H.add s₁ n₁ g₁
  have hgd₁ : h₁.get? d = some ob := H₁.get (by first | walk_at "mem" | simp)
  have rest : ∀ {a : Addr} {o : Obj} {us : List Value} {h₂ : Heap} {l : List (Addr × Obj)} (j : Nat), l[j]? = some (a, o) → IsLst o us → us.length ≤ sizeLine →
      S h₀ [dx] env.locals (upd (upd m (Str.ofString "i") (.int ps.length t)) (Str.ofString "elt") (.int n t')) l h₂ →
      ∀ Q : Flow → Heap → Prop, (∀ h' o', IsLst o' (us ++ [.int ps.length t]) → S h₀ [dx] env.locals (upd (upd (upd m (Str.ofString "i") (.int ps.length t)) (Str.ofString "elt") (.int n t')) (Str.ofString "indices") (.ref a)) (l.set j (a, o')) h' → Q .next h') →
      T prog w A (storeName env (Str.ofString "indices") (.ref a)) h₂ fun _ h' => T prog w A (execs (match (match stN (bodyN (stN (bodyN (stN pwBody 5)) 5)) 2 with | .For _ _ b _ _ => b | _ => []) with | _ :: r => r | [] => []) env) h' Q := by
    intro a o us h₂ l j hj hl hz' H₂ Q q
    refine T.storeName e H₂ (fun h₃ H₃ => ?_) k3
    have ga : h₃.get? a = some o := H₃.get (List.mem_of_getElem? hj)
    refine T.execs_cons (T.Expr (T.Call_method ?_) e.inter)
    refine T.Name e H₃ (by walk_at "look") ?_ k3 (by decide +kernel)
    refine t_getMethodB ga hl.cls.1 hl.cls.2 PySem.F.plainAttrs_list PySem.F.slot_list_append PySem.F.type_list_append ?_
    refine T.callWith ?_ rfl
    refine T.Name e H₃ (by walk_at "look") ?_ k1 (by decide +kernel)
    refine ⟨Keeps.builtin, t_append ga hl hz' fun h₄ o₄ s₄ g₄ l₄ => ⟨(fun b q => by cases q), ?_⟩⟩
    exact T.execs_nil (q h₄ o₄ l₄ (H₃.upd j hj s₄ g₄))
  have hsz : kvs.length ≤ sizeLine := by rw [sizeLine_eq]; have := hf.len; (first | lia | omega)
  refine t_setdefault hgd₁ hd lo hsz (fun v hv => ?_) fun hv h₂ ob' s₂ g₂ d₂ => ?_
  · -- the item was met before
    have hp : n ∈ ps := Classical.byContradiction fun q => by rw [hf.no n q] at hv; cases hv
    obtain ⟨a, o, us, f1, f2, f3, f4⟩ := hf.there n hp
    rw [f1] at hv
    cases hv
    obtain ⟨j, hj⟩ := List.mem_iff_getElem?.mp f2
    have hjl : j < fam.length := by
      rcases Nat.lt_or_ge j fam.length with y | y
      · exact y
      · rw [List.getElem?_eq_none y] at hj; cases hj
    have H₁' := H₁.drop (l' := (dx, od) :: (d, ob) :: fam ++ E) (List.sublist_cons_self _ _) (by first | walk_at "mem" | simp)
    have hus : us.length ≤ sizeLine := by
      have e1 := f4.length
      have : ∀ (ps : List Int) (k : Int) (i : Nat), (places ps k i).length ≤ ps.length := by
        intro ps
        induction ps with
        | nil => intro k i; exact Nat.le_refl _
        | cons p r ih => intro k i; rw [places]; split <;> simp <;> exact Nat.le_trans (ih k (i + 1)) (by (first | lia | omega))
      have := this ps n 0
      rw [sizeLine_eq]; (first | lia | omega)
    refine rest (j + 2) (l := (dx, od) :: (d, ob) :: fam ++ E) (by simp [List.getElem?_append_left hjl, hj]) f3 hus H₁' _ fun h' o' hl' H' => ?_
    have : ((dx, od) :: (d, ob) :: fam ++ E).set (j + 2) (a, o') = (dx, od) :: (d, ob) :: fam.set j (a, o') ++ E := by
      simp [List.set_append_left _ _ hjl]
    rw [this] at H'
    exact ⟨_, ob, kvs, fam.set j (a, o'), (by intro y n1 n2 n3; simp [upd, n1, n2, n3]), hd, hf.old f1 hj f3 f4 hl' hp, H'⟩
  · -- the item is new
    have H₂ := H₁.upd (o' := ob') 2 (d := d) (o := ob) (by first | walk_at "mem" | simp) s₂ g₂
    have H₂' : S h₀ [dx] env.locals (upd (upd m (Str.ofString "i") (.int ps.length t)) (Str.ofString "elt") (.int n t')) ((a₀, o₀) :: (dx, od) :: (d, ob') :: (fam ++ E)) h₂ := by simpa using H₂
    refine rest 0 (l := (a₀, o₀) :: (dx, od) :: (d, ob') :: (fam ++ E)) rfl l₁ (by decide) H₂' _ fun h' o' hl' H' => ?_
    have ha : a₀ ∉ fam.map (·.1) := fun q => by
      have := H₂'.nodup
      rw [List.map_cons, List.nodup_cons] at this
      exact this.1 (by simp at q ⊢; exact .inr (.inr (.inl q)))
    have HP := H'.perm (l' := (dx, od) :: (d, ob') :: (a₀, o') :: (fam ++ E)) ((List.Perm.swap _ _ _).trans (List.Perm.cons _ (List.Perm.swap _ _ _)))
    exact ⟨_, ob', kvs ++ [(n, .ref a₀)], (a₀, o') :: fam, (by intro y n1 n2 n3; simp [upd, n1, n2, n3]), d₂, hf.new hv ha hl', HP⟩

structure B2J (prog : Program) (w : World) (h : Heap) (d : Addr) (ns : List Int) : Prop where
  ob : ∃ o kvs fam, h.get? d = some o ∧ IsDic prog w o kvs ∧ FamOk ns kvs fam ∧ ∀ p ∈ fam, h.get? p.1 = some p.2
  lo : (d == sysModules) = false

theorem chain_b {aj : Bool} {x dx ax : Addr} {od : Obj} {am : Str → Option Value} {vs : List Value} {ns : List Int} {hb : Heap} {Q : Value → Heap → Prop} (G : Gr (frag w.params) hb) (B : Sub [] hb h) (hn : hb.get? dx = none) (hh : A.handled = none) (hroom : A.depth < recursionLimit)
    (ho : h.get? x = some (instObj aSM dx)) (hdx : h.get? dx = some od) (ia : IsAttrs attrN od am) (hab : am (Str.ofString "b") = some (.ref ax)) (hj : am (Str.ofString "isjunk") = some .none) (haj : am (Str.ofString "autojunk") = some (.bool aj))
    (hl : h.IsList ax vs.toArray) (hi : IntsAre vs ns) (hz : ns.length < 100000)
    (q : ∀ h' od' d dj dp oj led, Sub [dx] h h' → h'.get? dx = some od' → IsAttrs attrN od' (upd (upd (upd am (Str.ofString "b2j") (.ref d)) (Str.ofString "bjunk") (.ref dj)) (Str.ofString "bpopular") (.ref dp)) → B2J prog w h' d ns → h'.get? dj = some oj → oj = { cls := .type "set", dict := none, data := .set #[] 0 (.fresh 0 0 led) } → Q .none h') (hsm : aj = true → ns.length < 200 := by intro z; cases z) :
    TC prog w A (.call (.ref at_SequenceMatcher_chain_b) ⟨[.ref x], []⟩) h Q := by
  refine TC.def (binds := [(Str.ofString "self", .ref x)]) [(dx, od)] (fn_chain_b w.params) (G.sub B) hroom (by kernel_rfl!) (by kernel_rfl!) (by simpa using hdx) (by first | walk_at "mem" | simp) fun h₁ L H => ?_
  have e := (fn_chain_b w.params).ok L
  have hm : bindM [(Str.ofString "self", .ref x)] (Str.ofString "self") = some (.ref x) := (upd_here : upd (fun _ => none) (Str.ofString "self") (.ref x) (Str.ofString "self") = _)
  generalize bindM [(Str.ofString "self", Value.ref x)] = m at *
  have hk : ∀ y ∈ [Str.ofString "self", Str.ofString "b", Str.ofString "b2j", Str.ofString "i", Str.ofString "elt", Str.ofString "indices", Str.ofString "junk", Str.ofString "isjunk", Str.ofString "popular", Str.ofString "n"], (callEnv fdOf_SequenceMatcher_chain_b L at_SequenceMatcher_chain_b).kindOf y = some .local := by
    have : ([Str.ofString "self", Str.ofString "b", Str.ofString "b2j", Str.ofString "i", Str.ofString "elt", Str.ofString "indices", Str.ofString "junk", Str.ofString "isjunk", Str.ofString "popular", Str.ofString "n"].all fun y => decide ((callEnv fdOf_SequenceMatcher_chain_b L at_SequenceMatcher_chain_b).kindOf y = some .local)) = true := by kernel_rfl!
    exact fun y hy => of_decide_eq_true (List.all_eq_true.mp this y hy)
  have hg1 : (callEnv fdOf_SequenceMatcher_chain_b L at_SequenceMatcher_chain_b).kindOf (Str.ofString "enumerate") = some .globalImplicit := by kernel_rfl!
  have hg2 : (callEnv fdOf_SequenceMatcher_chain_b L at_SequenceMatcher_chain_b).kindOf (Str.ofString "set") = some .globalImplicit := by kernel_rfl!
  have hg3 : (callEnv fdOf_SequenceMatcher_chain_b L at_SequenceMatcher_chain_b).kindOf (Str.ofString "len") = some .globalImplicit := by kernel_rfl!
  generalize henv : callEnv fdOf_SequenceMatcher_chain_b L at_SequenceMatcher_chain_b = env at *
  have hL : L = env.locals := by rw [← henv]; rfl
  subst hL
  clear henv
  have hh' : (A.deeper env).handled = none := hh
  generalize A.deeper env = A' at *
  have hxd : x ≠ dx := fun q => by
    obtain ⟨es, n, e1, _⟩ := ia
    rw [q, hdx, e1] at ho; cases ho
  have GG : ∀ {m l h₂}, S h [dx] env.locals m l h₂ → Gr (frag w.params) h₂ := fun H => G.sub fun b o _ eb => H.base b o (fun q => by
    obtain rfl : b = dx := by simpa using q
    rw [hn] at eb; cases eb) (B b o (by first | walk_at "mem" | simp) eb)
  have Hx : ∀ {m l h₂}, S h [dx] env.locals m l h₂ → h₂.get? x = some (instObj aSM dx) := fun H => H.old ho (by simpa using hxd)
  have hax : ax ≠ dx := fun q => by
    obtain ⟨es, n, e1, _⟩ := ia
    obtain ⟨ol, h1, h2, _⟩ := hl
    rw [q, hdx, e1] at h1; cases h1; simp at h2
  have Hl : ∀ {m l h₂}, S h [dx] env.locals m l h₂ → h₂.IsList ax vs.toArray := fun H => hl.at fun o eo => H.old eo (by simpa using hax)
  replace H : S h [dx] env.locals m [(dx, od)] h₁ := H
  have low : ∀ {m l h₂ a}, S h [dx] env.locals m l h₂ → h₂.get? a = none → (a == sysModules) = false := fun H ha => by
    have := (GG H).k sysModules (PySem.W.boot_o_1 w.params) (by kernel_rfl!)
    refine beq_eq_false_iff_ne.mpr fun q => ?_
    rw [q, this] at ha; cases ha
  have P := plainSM w.params
  refine T.execs_cons (T.Assign_Name (T.Attribute ?_))
  refine T.Name e H hm ?_ (hk _ (by first | walk_at "mem" | simp)) (by decide +kernel)
  refine T.getAttr P (GG H).k ⟨Hx H, H.get (by first | walk_at "mem" | simp)⟩ ia hab (attrFind _ (by delta attrN; walk_at "mem")) rfl ?_
  refine T.storeName e H (fun h₂ H₂ => ?_) (hk _ (by first | walk_at "mem" | simp))
  refine T.execs_cons (t_Assign2 (t_Dict0 fun d h₃ ob s₃ n₃ g₃ d₃ => t_assignAttr ?_))
  have lo := low H₂ n₃
  have H₃ := H₂.add s₃ n₃ g₃
  refine T.Name e H₃ (by walk_at "look") ?_ (hk _ (by first | walk_at "mem" | simp)) (by decide +kernel)
  refine T.setAttr P (GG H₃).k H₃ 1 rfl (Hx H₃) ia (attrTake _ (by delta attrN; walk_at "mem")) (fun h₄ od₄ H₄ _ ia₄ _ => ?_) (by delta attrN; walk_at "mem") (by decide)
  refine t_assignName e H₄ (fun h₅ H₅ => ?_) (hk _ (by first | walk_at "mem" | simp))
  replace H₅ : S h [dx] env.locals _ [(d, ob), (dx, od₄)] h₅ := H₅
  have H₅' := H₅.perm (List.Perm.swap (dx, od₄) (d, ob) [])
  refine T.execs_cons (T.For (T.Call_Name ?_))
  refine T.builtin (v := .type "enumerate") e (GG H₅) (by kernel_rfl!) (by kernel_rfl!) ?_ hg1 (by decide +kernel) (by decide +kernel)
  refine T.callWith ?_ rfl
  refine T.Name e H₅ (by walk_at "look") ?_ (hk _ (by first | walk_at "mem" | simp)) (by decide +kernel)
  refine ⟨Keeps.type, ?_⟩
  generalize hmm : upd (upd m (Str.ofString "b") (Value.ref ax)) (Str.ofString "b2j") (Value.ref d) = m₅ at *
  have hm5 : m₅ (Str.ofString "self") = some (.ref x) := by subst hmm; walk_at "look"
  have hm5b : m₅ (Str.ofString "b") = some (.ref ax) := by subst hmm; walk_at "look"
  have hm5d : m₅ (Str.ofString "b2j") = some (.ref d) := by subst hmm; walk_at "look"
  refine tf_enum (vs := vs) e hh' (hk _ (by first | walk_at "mem" | simp)) (hk _ (by first | walk_at "mem" | simp)) H₅' (fun i m l => ∃ ob kvs fam, l = (dx, od₄) :: (d, ob) :: fam ∧ IsDic prog w ob kvs ∧ FamOk (ns.take i) kvs fam ∧ ∀ y, y ≠ Str.ofString "i" → y ≠ Str.ofString "elt" → y ≠ Str.ofString "indices" → m y = m₅ y) ?_ ?_ ?_ ?_ ?_
  · rintro i m l ⟨ob, kvs, fam, rfl, _⟩ d hd
    simp at hd ⊢; exact .inl hd
  · rintro i m l h ⟨ob, kvs, fam, rfl, _⟩ H
    exact Hl H
  · exact ⟨ob, [], [], rfl, d₃, ⟨fun k hk => (by simp at hk), fun k _ => rfl, fun k k' a h => (by cases h), by simp⟩, fun y _ _ _ => rfl⟩
  · rintro i v t m l E h₆ hv ⟨ob, kvs, fam, rfl, hd, hf, hmy⟩ H₆
    have hi' : i < ns.length := by
      have := hi.length
      rcases Nat.lt_or_ge i vs.length with y | y
      · (first | lia | omega)
      · rw [List.getElem?_eq_none y] at hv; cases hv
    obtain ⟨t', hx'⟩ := hi.get i ns[i] (by simp [hi'])
    rw [hv] at hx'
    cases hx'
    have hlen : (ns.take i).length = i := by simp; (first | lia | omega)
    have hmd : m (Str.ofString "b2j") = some (.ref d) := by rw [hmy _ (by decide +kernel) (by decide +kernel) (by decide +kernel)]; exact hm5d
    refine (chain_turn (x := x) (px := []) (t := t) (t' := t') e (fun y hy => hk y (by simp at hy ⊢; rcases hy with h | h | h | h <;> simp [h])) hmd lo hd hf (by rw [hlen]; (first | lia | omega)) (by rw [hlen]; exact H₆)).mono fun f h₇ z => ?_
    cases f with
    | next =>
      obtain ⟨m₂, ob', kvs', fam', hy, hd', hf', H₇⟩ := z
      refine ⟨m₂, (dx, od₄) :: (d, ob') :: fam', ⟨ob', kvs', fam', rfl, hd', ?_, fun y n1 n2 n3 => (hy y n1 n2 n3).trans (hmy y n1 n2 n3)⟩, H₇⟩
      rw [List.take_add_one, List.getElem?_eq_getElem hi']
      exact hf'
    | brk => exact z.elim
    | cont => exact z.elim
    | ret v => exact z.elim
  · rintro m l h₆ ⟨ob, kvs, fam, rfl, hd, hf, hmy⟩ H₆
    rw [hi.length, List.take_length] at hf
    have ms : m (Str.ofString "self") = some (.ref x) := by rw [hmy _ (by decide +kernel) (by decide +kernel) (by decide +kernel)]; exact hm5
    have mb : m (Str.ofString "b") = some (.ref ax) := by rw [hmy _ (by decide +kernel) (by decide +kernel) (by decide +kernel)]; exact hm5b
    clear hmy
    refine T.execs_cons (t_Assign2 (T.Call_Name ?_))
    refine T.builtin (v := .type "set") e (GG H₆) (by kernel_rfl!) (by kernel_rfl!) ?_ hg2 (by decide +kernel) (by decide +kernel)
    refine T.callWith ?_ rfl
    refine ⟨Keeps.type, t_set0 fun dj h₇ led s₇ n₇ g₇ => t_assignAttr ?_⟩
    have H₇ := H₆.add s₇ n₇ g₇
    refine T.Name e H₇ (by walk_at "look") ?_ (hk _ (by first | walk_at "mem" | simp)) (by decide +kernel)
    refine T.setAttr P (GG H₇).k H₇ 1 rfl (Hx H₇) ia₄ (attrTake _ (by delta attrN; walk_at "mem")) (fun h₈ od₈ H₈ _ ia₈ _ => ?_) (by delta attrN; walk_at "mem") (by decide)
    refine t_assignName e H₈ (fun h₉ H₉ => ?_) (hk _ (by first | walk_at "mem" | simp))
    refine T.execs_cons (T.Assign_Name (T.Attribute ?_))
    refine T.Name e H₉ (by walk_at "look") ?_ (hk _ (by first | walk_at "mem" | simp)) (by decide +kernel)
    refine T.getAttr P (GG H₉).k ⟨Hx H₉, H₉.get (by first | walk_at "mem" | simp)⟩ ia₈ (v := .none) (by walk_at "look") (attrFind _ (by delta attrN; walk_at "mem")) rfl ?_
    refine T.storeName e H₉ (fun h₁₀ H₁₀ => ?_) (hk _ (by first | walk_at "mem" | simp))
    refine T.execs_cons (T.If (t_isTrue_plain ?_))
    refine T.Name e H₁₀ (by walk_at "look") ?_ (hk _ (by first | walk_at "mem" | simp)) (by decide +kernel)
    refine t_truthy_none ?_
    refine T.execs_nil ?_
    refine T.execs_cons (t_Assign2 (T.Call_Name ?_))
    refine T.builtin (v := .type "set") e (GG H₁₀) (by kernel_rfl!) (by kernel_rfl!) ?_ hg2 (by decide +kernel) (by decide +kernel)
    refine T.callWith ?_ rfl
    refine ⟨Keeps.type, t_set0 fun dp h₁₁ led' s₁₁ n₁₁ g₁₁ => t_assignAttr ?_⟩
    have H₁₁ := H₁₀.add s₁₁ n₁₁ g₁₁
    refine T.Name e H₁₁ (by walk_at "look") ?_ (hk _ (by first | walk_at "mem" | simp)) (by decide +kernel)
    refine T.setAttr P (GG H₁₁).k H₁₁ 2 rfl (Hx H₁₁) ia₈ (attrTake _ (by delta attrN; walk_at "mem")) (fun h₁₂ od₁₂ H₁₂ _ ia₁₂ _ => ?_) (by delta attrN; walk_at "mem") (by decide)
    refine t_assignName e H₁₂ (fun h₁₃ H₁₃ => ?_) (hk _ (by first | walk_at "mem" | simp))
    refine T.execs_cons (T.Assign_Name (T.Call_Name ?_))
    refine T.builtin (v := .builtin "len") e (GG H₁₃) (by kernel_rfl!) (by kernel_rfl!) ?_ hg3 (by decide +kernel) (by decide +kernel)
    refine T.callWith ?_ rfl
    refine T.Name e H₁₃ (by walk_at "look") ?_ (hk _ (by first | walk_at "mem" | simp)) (by decide +kernel)
    refine ⟨Keeps.builtin, t_len (Hl H₁₃) (by have := hi.length; (first | lia | omega)) fun t => ?_⟩
    refine T.storeName e H₁₃ (fun h₁₄ H₁₄ => ?_) (hk _ (by first | walk_at "mem" | simp))
    refine T.execs_cons (T.If (t_isTrue_and (t_isTrue_plain (T.Attribute ?_))))
    refine T.Name e H₁₄ (by walk_at "look") ?_ (hk _ (by first | walk_at "mem" | simp)) (by decide +kernel)
    refine T.getAttr P (GG H₁₄).k ⟨Hx H₁₄, H₁₄.get (by first | walk_at "mem" | simp)⟩ ia₁₂ (v := .bool aj) (by walk_at "look") (attrFind _ (by delta attrN; walk_at "mem")) rfl ?_
    refine T.truthy_bool ?_
    have fin : T prog w A' (execs [] env) h₁₄ fun f h' => match f with | .next => T prog w A' (execs [] env) h' (fun fl h' => Q (match fl with | .ret v => v | _ => .none) h') | f => Q (match f with | .ret v => v | _ => .none) h' := by
      refine T.execs_nil (T.execs_nil ?_)
      refine q h₁₄ od₁₂ d dj dp _ led H₁₄.base (H₁₄.get (by first | walk_at "mem" | simp)) ia₁₂ ⟨⟨ob, kvs, fam, H₁₄.get (by first | walk_at "mem" | simp), hd, hf, fun p hp => H₁₄.led p (by simp [hp])⟩, lo⟩ (H₁₄.get (o := { cls := .type "set", dict := none, data := .set #[] 0 (.fresh 0 0 led) }) (by first | walk_at "mem" | simp)) rfl
    cases aj with
    | false => exact fin
    | true =>
      have hs := hsm rfl
      have hvl := hi.length
      rw [if_pos rfl]
      refine t_isTrue_and (T.isTrue_Compare ?_)
      refine T.Name e H₁₄ (by walk_at "look") ?_ (hk _ (by first | walk_at "mem" | simp)) (by decide +kernel)
      refine T.cInt fun t2 => T.ge (T.truthy_bool ?_)
      rw [if_neg (by rw [decide_eq_true_eq]; (first | lia | omega)), if_neg (by first | walk_at "mem" | simp)]
      exact fin
end
end Mine

end
section
open PySem PySem.W PyProof.Rows PySem.Calls
set_option Elab.async false
set_option linter.unusedVariables false
namespace Mine
theorem valueAt_stored {kvs : List (Int × Value)} {k j : Int} {v : Value} : valueAt (stored kvs k v) j = if j = k then some v else valueAt kvs j := by
  unfold stored
  split
  · rename_i ha
    unfold valueAt
    rw [List.find?_map]
    have ep : ((fun kv : Int × Value => decide (kv.1 = j)) ∘ fun kv => if kv.1 = k then (kv.1, v) else kv) = fun kv => decide (kv.1 = j) := by
      funext kv; simp only [Function.comp]; split <;> rfl
    rw [ep]
    cases hf : kvs.find? (fun kv => decide (kv.1 = j)) with
    | none =>
      have : j ≠ k := fun q => by
        obtain ⟨x, hx, hk⟩ := List.any_eq_true.mp ha
        have := List.find?_eq_none.mp hf x hx
        rw [q] at this
        exact this hk
      simp [this]
    | some x =>
      have hx : x.1 = j := by simpa using List.find?_some hf
      by_cases e : j = k
      · simp [hx, e]
      · simp [hx, e]
  · rename_i ha
    refine valueAt_snoc ?_
    unfold valueAt
    cases hf : kvs.find? (fun kv => decide (kv.1 = k)) with
    | none => rfl
    | some x => exact absurd (List.any_eq_true.mpr ⟨x, List.mem_of_find?_eq_some hf, List.find?_some hf⟩) ha
theorem places_mem {ns : List Int} {k j : Int} : ∀ {i : Nat}, j ∈ places ns k i ↔ ∃ n : Nat, j = ((i + n : Nat) : Int) ∧ ns[n]? = some k := by
  induction ns with
  | nil => intro i; simp [places]
  | cons p r ih =>
    intro i
    have step : (∃ n : Nat, j = ((i + n : Nat) : Int) ∧ (p :: r)[n]? = some k) ↔ (j = (i : Int) ∧ p = k) ∨ ∃ n : Nat, j = ((i + 1 + n : Nat) : Int) ∧ r[n]? = some k := by
      constructor
      · rintro ⟨n, e1, e2⟩
        cases n with
        | zero => exact .inl ⟨by simpa using e1, by simpa using e2⟩
        | succ n => exact .inr ⟨n, by rw [e1]; congr 1; (first | lia | omega), by simpa using e2⟩
      · rintro (⟨e1, e2⟩ | ⟨n, e1, e2⟩)
        · exact ⟨0, by simpa using e1, by simpa using e2⟩
        · exact ⟨n + 1, by rw [e1]; congr 1; (first | lia | omega), by simpa using e2⟩
    rw [step, places]
    split
    · rename_i e
      rw [List.mem_cons, ih]
      simp [e]
    · rename_i e
      rw [ih]
      simp [e]
theorem places_sorted {ns : List Int} {k : Int} : ∀ {i : Nat}, (places ns k i).Pairwise (· < ·) := by
  induction ns with
  | nil => intro i; exact .nil
  | cons p r ih =>
    intro i
    rw [places]
    split
    · refine List.pairwise_cons.mpr ⟨fun j hj => ?_, ih⟩
      obtain ⟨n, e, _⟩ := places_mem.mp hj
      (first | lia | omega)
    · exact ih
theorem places_le {ns : List Int} {k : Int} : ∀ {i : Nat}, (places ns k i).length ≤ ns.length := by
  induction ns with
  | nil => intro i; exact Nat.le_refl _
  | cons p r ih => intro i; rw [places]; split <;> simp <;> exact Nat.le_trans ih (by (first | lia | omega))
noncomputable def Row (kvs : List (Int × Value)) (f : Nat → Nat) (vis : Nat → Prop) : Prop := ∀ j : Int, (∃ (n : Nat) (t : Tok), j = n ∧ 0 < f n ∧ valueAt kvs j = some (.int (f n) t)) ∨ (valueAt kvs j = none ∧ ∀ n : Nat, j = n → vis n → f n = 0)
theorem Row.nil {f : Nat → Nat} {vis : Nat → Prop} (h : ∀ n, vis n → f n = 0) : Row [] f vis := fun j => .inr ⟨rfl, fun n _ v => h n v⟩
theorem Row.skip {kvs : List (Int × Value)} {f : Nat → Nat} {vis vis' : Nat → Prop} (r : Row kvs f vis) (h : ∀ n, vis' n → vis n ∨ f n = 0) : Row kvs f vis' := fun j => (r j).imp id fun ⟨e, z⟩ => ⟨e, fun n hn v => (h n v).elim (z n hn) id⟩
theorem Row.put {kvs : List (Int × Value)} {f : Nat → Nat} {vis vis' : Nat → Prop} {n : Nat} {t : Tok} (r : Row kvs f vis) (hn : 0 < f n) (h : ∀ k, vis' k → vis k ∨ k = n) : Row (stored kvs n (.int (f n) t)) f vis' := fun j => by
  rw [valueAt_stored]
  by_cases e : j = n
  · exact .inl ⟨n, t, e, hn, by rw [if_pos e]⟩
  · rw [if_neg e]
    exact (r j).imp id fun ⟨e', z⟩ => ⟨e', fun k hk v => (h k v).elim (z k hk) fun q => absurd (by rw [hk, q]) e⟩
theorem Row.get {kvs : List (Int × Value)} {f : Nat → Nat} {vis : Nat → Prop} {n : Nat} {t : Tok} (r : Row kvs f vis) (hv : vis n) : ∃ t', (valueAt kvs (n : Int)).getD (.int 0 t) = .int (f n) t' := by
  rcases r n with ⟨k, t', e, _, q⟩ | ⟨q, z⟩
  · obtain rfl : n = k := by (first | lia | omega)
    exact ⟨t', by rw [q]; rfl⟩
  · exact ⟨t, by rw [q, z n rfl hv]; rfl⟩
theorem Row.neg {kvs : List (Int × Value)} {f : Nat → Nat} {vis : Nat → Prop} {j : Int} {d : Value} (r : Row kvs f vis) (hj : j < 0) : (valueAt kvs j).getD d = d := by
  rcases r j with ⟨k, t', e, _, q⟩ | ⟨q, z⟩
  · (first | lia | omega)
  · rw [q]; rfl
end Mine

end
section
open PySem PySem.W PyProof.Rows PySem.Calls
set_option Elab.async false
set_option linter.unusedVariables false
set_option maxRecDepth 100000
set_option maxHeartbeats 4000000
namespace Mine

section
variable {prog : Program} {w : World} {A : Around} {h h' h₀ : Heap}
noncomputable def Differs (h : Heap) (u v : Value) : Prop := (plainIs u v = true ∧ u ≠ v) ∨ ∃ x y ox oy, u = .ref x ∧ v = .ref y ∧ x ≠ y ∧ h.get? x = some ox ∧ h.get? y = some oy ∧ ox.cls ≠ .type "tuple"
theorem t_is_no {u v : Value} {Q : Value → Heap → Prop} (hd : Differs h u v) (q : Q (.bool false) h) : T prog w A (compareOp .Is u v) h Q := fun s es => by
  subst es
  rcases hd with ⟨hp, hn⟩ | ⟨x, y, ox, oy, rfl, rfl, hn, hx, hy, hc⟩
  · exact wpAny_is_other hp hn ⟨_, s.toks, rfl, q⟩
  · exact wpAny_is_ref_other hn hx hy hc ⟨_, s.toks, rfl, q⟩
theorem Differs.sub {D : List Addr} {u v : Value} (hd : Differs h u v) (x : Sub D h h') (hu : ∀ a, u = .ref a → a ∉ D) (hv : ∀ a, v = .ref a → a ∉ D) : Differs h' u v := by
  rcases hd with hd | ⟨x', y, ox, oy, rfl, rfl, hn, hx, hy, hc⟩
  · exact .inl hd
  · exact .inr ⟨x', y, ox, oy, rfl, rfl, hn, x _ _ (hu _ rfl) hx, x _ _ (hv _ rfl) hy, hc⟩

theorem fn_set_seq1 (P : Params) : FnOk (frag P) at_SequenceMatcher_set_seq1 fdOf_SequenceMatcher_set_seq1 (bodyN (stN (bodyN (stN pwBody 5)) 3)) :=
  ⟨⟨obOf_SequenceMatcher_set_seq1 P, by kernel_rfl!, rfl⟩, by kernel_rfl!, by kernel_rfl!, by kernel_rfl!, by kernel_rfl!, by kernel_rfl!, by kernel_rfl!, by kernel_rfl!, by kernel_rfl!⟩
theorem fn_set_seq2 (P : Params) : FnOk (frag P) at_SequenceMatcher_set_seq2 fdOf_SequenceMatcher_set_seq2 (bodyN (stN (bodyN (stN pwBody 5)) 4)) :=
  ⟨⟨obOf_SequenceMatcher_set_seq2 P, by kernel_rfl!, rfl⟩, by kernel_rfl!, by kernel_rfl!, by kernel_rfl!, by kernel_rfl!, by kernel_rfl!, by kernel_rfl!, by kernel_rfl!, by kernel_rfl!⟩
theorem fn_set_seqs (P : Params) : FnOk (frag P) at_SequenceMatcher_set_seqs fdOf_SequenceMatcher_set_seqs (bodyN (stN (bodyN (stN pwBody 5)) 2)) :=
  ⟨⟨obOf_SequenceMatcher_set_seqs P, by kernel_rfl!, rfl⟩, by kernel_rfl!, by kernel_rfl!, by kernel_rfl!, by kernel_rfl!, by kernel_rfl!, by kernel_rfl!, by kernel_rfl!, by kernel_rfl!⟩
theorem fn_init (P : Params) : FnOk (frag P) at_SequenceMatcher_init fdOf_SequenceMatcher_init (bodyN (stN (bodyN (stN pwBody 5)) 1)) :=
  ⟨⟨obOf_SequenceMatcher_init P, by kernel_rfl!, rfl⟩, by kernel_rfl!, by kernel_rfl!, by kernel_rfl!, by kernel_rfl!, by kernel_rfl!, by kernel_rfl!, by kernel_rfl!, by kernel_rfl!⟩

theorem inst_ne {x dx : Addr} {od : Obj} {N : List Str} {am : Str → Option Value} (ho : h.get? x = some (instObj aSM dx)) (hdx : h.get? dx = some od) (ia : IsAttrs N od am) : x ≠ dx := fun q => by
  obtain ⟨es, n, e1, _⟩ := ia
  rw [q, hdx, e1] at ho; cases ho
theorem list_ne {x dx : Addr} {od : Obj} {N : List Str} {am : Str → Option Value} {vs : Array Value} (hl : h.IsList x vs) (hdx : h.get? dx = some od) (ia : IsAttrs N od am) : x ≠ dx := fun q => by
  obtain ⟨es, n, e1, _⟩ := ia
  obtain ⟨ol, h1, h2, _⟩ := hl
  rw [q, hdx, e1] at h1; cases h1; simp at h2
theorem gr_in {hb : Heap} {dx L : Addr} {m : Str → Option Value} {l : List (Addr × Obj)} {h₂ : Heap} {K : Frag} (G : Gr K hb) (B : Sub [] hb h) (hn : hb.get? dx = none) (H : S h [dx] L m l h₂) : Gr K h₂ := G.sub fun b o _ eb => H.base b o (fun q => by
    obtain rfl : b = dx := by simpa using q
    rw [hn] at eb; cases eb) (B b o (by first | walk_at "mem" | simp) eb)

theorem set_seq1 {x dx : Addr} {u v : Value} {od : Obj} {am : Str → Option Value} {hb : Heap} {Q : Value → Heap → Prop} (G : Gr (frag w.params) hb) (B : Sub [] hb h) (hn : hb.get? dx = none) (hroom : A.depth < recursionLimit)
    (ho : h.get? x = some (instObj aSM dx)) (hdx : h.get? dx = some od) (ia : IsAttrs attrN od am) (ha : am (Str.ofString "a") = some u) (hu : handedIn u = true) (hd : Differs h v u) (nv : v ≠ .ref dx) (nu : u ≠ .ref dx)
    (q : ∀ h' od', Sub [dx] h h' → h'.get? dx = some od' → IsAttrs attrN od' (upd (upd (upd am (Str.ofString "a") v) (Str.ofString "matching_blocks") .none) (Str.ofString "opcodes") .none) → Q .none h') :
    TC prog w A (.call (.ref at_SequenceMatcher_set_seq1) ⟨[.ref x, v], []⟩) h Q := by
  refine TC.def (binds := [(Str.ofString "self", .ref x), (Str.ofString "a", v)]) [(dx, od)] (fn_set_seq1 w.params) (G.sub B) hroom (by kernel_rfl!) (by kernel_rfl!) (by simpa using hdx) (by first | walk_at "mem" | simp) fun h₁ L H => ?_
  have e := (fn_set_seq1 w.params).ok L
  have k1 : (callEnv fdOf_SequenceMatcher_set_seq1 L at_SequenceMatcher_set_seq1).kindOf (Str.ofString "self") = some .local := by kernel_rfl!
  have k2 : (callEnv fdOf_SequenceMatcher_set_seq1 L at_SequenceMatcher_set_seq1).kindOf (Str.ofString "a") = some .local := by kernel_rfl!
  replace H : S h [dx] L (upd (upd (fun _ => none) (Str.ofString "self") (.ref x)) (Str.ofString "a") v) [(dx, od)] h₁ := H
  generalize henv : callEnv fdOf_SequenceMatcher_set_seq1 L at_SequenceMatcher_set_seq1 = env at *
  have hL : L = env.locals := by rw [← henv]; rfl
  subst hL
  clear henv
  generalize A.deeper env = A' at *
  have hxd := inst_ne ho hdx ia
  have GG : ∀ {m l h₂}, S h [dx] env.locals m l h₂ → Gr (frag w.params) h₂ := fun H => gr_in G B hn H
  have Hx : ∀ {m l h₂}, S h [dx] env.locals m l h₂ → h₂.get? x = some (instObj aSM dx) := fun H => H.old ho (by simpa using hxd)
  have P := plainSM w.params
  refine T.execs_cons (T.Expr (T.cStr fun t => ⟨(fun b q => by cases q), ?_⟩) e.inter)
  refine T.execs_cons (T.If (T.isTrue_Compare ?_))
  walk_at "nm"
  refine T.Attribute ?_
  walk_at "nm"
  refine T.getAttr P (GG H).k ⟨Hx H, H.get (by first | walk_at "mem" | simp)⟩ ia ha (attrFind _ (by delta attrN; walk_at "mem")) hu ?_
  refine t_is_no (hd.sub (D := [dx]) H.base (fun a q => by subst q; simpa using fun z => nv (by rw [z])) (fun a q => by subst q; simpa using fun z => nu (by rw [z]))) ?_
  refine T.truthy_bool ?_
  refine T.execs_nil ?_
  refine T.execs_cons (t_Assign_Attr ?_)
  walk_at "nm"
  walk_at "nm"
  refine T.setAttr P (GG H).k H 0 rfl (Hx H) ia (attrTake _ (by delta attrN; walk_at "mem")) (fun h₂ od₂ H₂ _ ia₂ _ => ?_) (by delta attrN; walk_at "mem") (by decide)
  refine T.execs_cons (t_Assign2 (T.cNone (t_assignAttr ?_)))
  walk_at "nm"
  refine T.setAttr P (GG H₂).k H₂ 0 rfl (Hx H₂) ia₂ (attrTake _ (by delta attrN; walk_at "mem")) (fun h₃ od₃ H₃ _ ia₃ _ => t_assignAttr ?_) (by delta attrN; walk_at "mem") (by decide)
  walk_at "nm"
  refine T.setAttr P (GG H₃).k H₃ 0 rfl (Hx H₃) ia₃ (attrTake _ (by delta attrN; walk_at "mem")) (fun h₄ od₄ H₄ _ ia₄ _ => ?_) (by delta attrN; walk_at "mem") (by decide)
  exact T.execs_nil (q h₄ od₄ H₄.base (H₄.get (by first | walk_at "mem" | simp)) ia₄)

noncomputable def am2 (am : Str → Option Value) (v : Value) (d dj dp : Addr) : Str → Option Value :=
  upd (upd (upd (upd (upd (upd (upd am (Str.ofString "b") v) (Str.ofString "matching_blocks") .none) (Str.ofString "opcodes") .none) (Str.ofString "fullbcount") .none) (Str.ofString "b2j") (.ref d)) (Str.ofString "bjunk") (.ref dj)) (Str.ofString "bpopular") (.ref dp)
noncomputable def emptySet (led : Bool) : Obj := { cls := .type "set", dict := none, data := .set #[] 0 (.fresh 0 0 led) }

theorem set_seq2 {aj : Bool} {x dx ax : Addr} {u : Value} {vs : List Value} {ns : List Int} {od : Obj} {am : Str → Option Value} {hb : Heap} {Q : Value → Heap → Prop} (G : Gr (frag w.params) hb) (B : Sub [] hb h) (hn : hb.get? dx = none) (hh : A.handled = none) (hroom : A.depth + 3 < recursionLimit)
    (ho : h.get? x = some (instObj aSM dx)) (hdx : h.get? dx = some od) (ia : IsAttrs attrN od am) (ha : am (Str.ofString "b") = some u) (hu : handedIn u = true) (hd : Differs h (.ref ax) u) (nu : u ≠ .ref dx)
    (hj : am (Str.ofString "isjunk") = some .none) (haj : am (Str.ofString "autojunk") = some (.bool aj)) (hmeth : am (Str.ofString "_SequenceMatcher__chain_b") = none)
    (hl : h.IsList ax vs.toArray) (hi : IntsAre vs ns) (hz : ns.length < 100000)
    (q : ∀ h' od' d dj dp led, Sub [dx] h h' → h'.get? dx = some od' → IsAttrs attrN od' (am2 am (.ref ax) d dj dp) → B2J prog w h' d ns → h'.get? dj = some (emptySet led) → Q .none h') (hsm : aj = true → ns.length < 200 := by intro z; cases z) :
    TC prog w A (.call (.ref at_SequenceMatcher_set_seq2) ⟨[.ref x, .ref ax], []⟩) h Q := by
  refine TC.def (binds := [(Str.ofString "self", .ref x), (Str.ofString "b", .ref ax)]) [(dx, od)] (fn_set_seq2 w.params) (G.sub B) (by (first | lia | omega)) (by kernel_rfl!) (by kernel_rfl!) (by simpa using hdx) (by first | walk_at "mem" | simp) fun h₁ L H => ?_
  have e := (fn_set_seq2 w.params).ok L
  have k1 : (callEnv fdOf_SequenceMatcher_set_seq2 L at_SequenceMatcher_set_seq2).kindOf (Str.ofString "self") = some .local := by kernel_rfl!
  have k2 : (callEnv fdOf_SequenceMatcher_set_seq2 L at_SequenceMatcher_set_seq2).kindOf (Str.ofString "b") = some .local := by kernel_rfl!
  replace H : S h [dx] L (upd (upd (fun _ => none) (Str.ofString "self") (.ref x)) (Str.ofString "b") (.ref ax)) [(dx, od)] h₁ := H
  generalize henv : callEnv fdOf_SequenceMatcher_set_seq2 L at_SequenceMatcher_set_seq2 = env at *
  have hL : L = env.locals := by rw [← henv]; rfl
  subst hL
  clear henv
  have hh' : (A.deeper env).handled = none := hh
  have hd' : (A.deeper env).depth + 2 < recursionLimit := by show A.depth + 1 + 2 < _; (first | lia | omega)
  generalize A.deeper env = A' at *
  have hxd := inst_ne ho hdx ia
  have had := list_ne hl hdx ia
  have GG : ∀ {m l h₂}, S h [dx] env.locals m l h₂ → Gr (frag w.params) h₂ := fun H => gr_in G B hn H
  have Hx : ∀ {m l h₂}, S h [dx] env.locals m l h₂ → h₂.get? x = some (instObj aSM dx) := fun H => H.old ho (by simpa using hxd)
  have P := plainSM w.params
  refine T.execs_cons (T.Expr (T.cStr fun t => ⟨(fun b q => by cases q), ?_⟩) e.inter)
  refine T.execs_cons (T.If (T.isTrue_Compare ?_))
  walk_at "nm"
  refine T.Attribute ?_
  walk_at "nm"
  refine T.getAttr P (GG H).k ⟨Hx H, H.get (by first | walk_at "mem" | simp)⟩ ia ha (attrFind _ (by delta attrN; walk_at "mem")) hu ?_
  refine t_is_no (hd.sub (D := [dx]) H.base (fun a q => by cases q; simpa using had) (fun a q => by subst q; simpa using fun z => nu (by rw [z]))) ?_
  refine T.truthy_bool ?_
  refine T.execs_nil ?_
  refine T.execs_cons (t_Assign_Attr ?_)
  walk_at "nm"
  walk_at "nm"
  refine T.setAttr P (GG H).k H 0 rfl (Hx H) ia (attrTake _ (by delta attrN; walk_at "mem")) (fun h₂ od₂ H₂ _ ia₂ _ => ?_) (by delta attrN; walk_at "mem") (by decide)
  refine T.execs_cons (t_Assign2 (T.cNone (t_assignAttr ?_)))
  walk_at "nm"
  refine T.setAttr P (GG H₂).k H₂ 0 rfl (Hx H₂) ia₂ (attrTake _ (by delta attrN; walk_at "mem")) (fun h₃ od₃ H₃ _ ia₃ _ => t_assignAttr ?_) (by delta attrN; walk_at "mem") (by decide)
  walk_at "nm"
  refine T.setAttr P (GG H₃).k H₃ 0 rfl (Hx H₃) ia₃ (attrTake _ (by delta attrN; walk_at "mem")) (fun h₄ od₄ H₄ _ ia₄ _ => ?_) (by delta attrN; walk_at "mem") (by decide)
  refine T.execs_cons (t_Assign_Attr (T.cNone ?_))
  walk_at "nm"
  refine T.setAttr P (GG H₄).k H₄ 0 rfl (Hx H₄) ia₄ (attrTake _ (by delta attrN; walk_at "mem")) (fun h₅ od₅ H₅ _ ia₅ _ => ?_) (by delta attrN; walk_at "mem") (by decide)
  refine T.execs_cons (T.Expr (T.Call_method ?_) e.inter)
  walk_at "nm"
  refine T.getMeth (f := at_SequenceMatcher_chain_b) P (GG H₅).k ⟨Hx H₅, H₅.get (by first | walk_at "mem" | simp)⟩ ia₅ (by walk_at "look") (by kernel_rfl!) (by kernel_rfl!) ?_
  refine T.callWith ⟨Keeps.frag (GG H₅).k (by kernel_rfl!), T.call ?_⟩ rfl
  have B₅ : Sub [] hb h₅ := fun b o _ eb => H₅.base b o (fun q => by
    obtain rfl : b = dx := by simpa using q
    rw [hn] at eb; cases eb) (B b o (by first | walk_at "mem" | simp) eb)
  refine chain_b (hsm := hsm) G B₅ hn hh' (by (first | lia | omega)) (Hx H₅) (H₅.get (by first | walk_at "mem" | simp)) ia₅ (by walk_at "look") (by walk_at "look") (by walk_at "look") (hl.at fun o eo => H₅.old eo (by simpa using had)) hi hz fun h₆ od₆ d dj dp oj led s₆ g₆ ia₆ b₆ gj ej => ⟨(fun b q => by cases q), ?_⟩
  refine T.execs_nil (q h₆ od₆ d dj dp led (H₅.base.trans s₆) g₆ ia₆ b₆ (by rw [gj, ej]; rfl))

theorem set_seqs {aj : Bool} {x dx ax bx : Addr} {u v : Value} {vs ws : List Value} {ns : List Int} {od : Obj} {am : Str → Option Value} {hb : Heap} {Q : Value → Heap → Prop} (G : Gr (frag w.params) hb) (B : Sub [] hb h) (hn : hb.get? dx = none) (hh : A.handled = none) (hroom : A.depth + 5 < recursionLimit)
    (ho : h.get? x = some (instObj aSM dx)) (hdx : h.get? dx = some od) (ia : IsAttrs attrN od am) (ha : am (Str.ofString "a") = some v) (hv : handedIn v = true) (hda : Differs h (.ref ax) v) (nv : v ≠ .ref dx)
    (hb' : am (Str.ofString "b") = some u) (hu : handedIn u = true) (hd : Differs h (.ref bx) u) (nu : u ≠ .ref dx)
    (hj : am (Str.ofString "isjunk") = some .none) (haj : am (Str.ofString "autojunk") = some (.bool aj)) (hm1 : am (Str.ofString "set_seq1") = none) (hm2 : am (Str.ofString "set_seq2") = none) (hmeth : am (Str.ofString "_SequenceMatcher__chain_b") = none)
    (hla : h.IsList ax ws.toArray) (hl : h.IsList bx vs.toArray) (hi : IntsAre vs ns) (hz : ns.length < 100000)
    (q : ∀ h' od' d dj dp led, Sub [dx] h h' → h'.get? dx = some od' → IsAttrs attrN od' (am2 (upd (upd (upd am (Str.ofString "a") (.ref ax)) (Str.ofString "matching_blocks") .none) (Str.ofString "opcodes") .none) (.ref bx) d dj dp) → B2J prog w h' d ns → h'.get? dj = some (emptySet led) → Q .none h') (hsm : aj = true → ns.length < 200 := by intro z; cases z) :
    TC prog w A (.call (.ref at_SequenceMatcher_set_seqs) ⟨[.ref x, .ref ax, .ref bx], []⟩) h Q := by
  refine TC.def (binds := [(Str.ofString "self", .ref x), (Str.ofString "a", .ref ax), (Str.ofString "b", .ref bx)]) [(dx, od)] (fn_set_seqs w.params) (G.sub B) (by (first | lia | omega)) (by kernel_rfl!) (by kernel_rfl!) (by simpa using hdx) (by first | walk_at "mem" | simp) fun h₁ L H => ?_
  have e := (fn_set_seqs w.params).ok L
  have k1 : (callEnv fdOf_SequenceMatcher_set_seqs L at_SequenceMatcher_set_seqs).kindOf (Str.ofString "self") = some .local := by kernel_rfl!
  have k2 : (callEnv fdOf_SequenceMatcher_set_seqs L at_SequenceMatcher_set_seqs).kindOf (Str.ofString "a") = some .local := by kernel_rfl!
  have k3 : (callEnv fdOf_SequenceMatcher_set_seqs L at_SequenceMatcher_set_seqs).kindOf (Str.ofString "b") = some .local := by kernel_rfl!
  replace H : S h [dx] L (upd (upd (upd (fun _ => none) (Str.ofString "self") (.ref x)) (Str.ofString "a") (.ref ax)) (Str.ofString "b") (.ref bx)) [(dx, od)] h₁ := H
  generalize henv : callEnv fdOf_SequenceMatcher_set_seqs L at_SequenceMatcher_set_seqs = env at *
  have hL : L = env.locals := by rw [← henv]; rfl
  subst hL
  clear henv
  have hh' : (A.deeper env).handled = none := hh
  have hd' : (A.deeper env).depth + 4 < recursionLimit := by show A.depth + 1 + 4 < _; (first | lia | omega)
  generalize A.deeper env = A' at *
  have hxd := inst_ne ho hdx ia
  have had := list_ne hla hdx ia
  have hbd := list_ne hl hdx ia
  have GG : ∀ {m l h₂}, S h [dx] env.locals m l h₂ → Gr (frag w.params) h₂ := fun H => gr_in G B hn H
  have Hx : ∀ {m l h₂}, S h [dx] env.locals m l h₂ → h₂.get? x = some (instObj aSM dx) := fun H => H.old ho (by simpa using hxd)
  have BB : ∀ {m l h₂}, S h [dx] env.locals m l h₂ → Sub [] hb h₂ := fun H b o _ eb => H.base b o (fun q => by
    obtain rfl : b = dx := by simpa using q
    rw [hn] at eb; cases eb) (B b o (by first | walk_at "mem" | simp) eb)
  have P := plainSM w.params
  refine T.execs_cons (T.Expr (T.cStr fun t => ⟨(fun b q => by cases q), ?_⟩) e.inter)
  refine T.execs_cons (T.Expr (T.Call_method ?_) e.inter)
  walk_at "nm"
  refine T.getMeth (f := at_SequenceMatcher_set_seq1) P (GG H).k ⟨Hx H, H.get (by first | walk_at "mem" | simp)⟩ ia hm1 (by kernel_rfl!) (by kernel_rfl!) ?_
  refine T.callWith ?_ rfl
  walk_at "nm"
  refine ⟨Keeps.frag (GG H).k (by kernel_rfl!), T.call ?_⟩
  refine set_seq1 G (BB H) hn (by (first | lia | omega)) (Hx H) (H.get (by first | walk_at "mem" | simp)) ia ha hv (hda.sub (D := [dx]) H.base (fun a q => by cases q; simpa using had) (fun a q => by subst q; simpa using fun z => nv (by rw [z]))) (fun z => had (by cases z; rfl)) nv fun h₂ od₂ s₂ g₂ ia₂ => ⟨(fun b q => by cases q), ?_⟩
  have H₂ := H.upd 0 rfl s₂ g₂
  refine T.execs_cons (T.Expr (T.Call_method ?_) e.inter)
  walk_at "nm"
  refine T.getMeth (f := at_SequenceMatcher_set_seq2) P (GG H₂).k ⟨Hx H₂, H₂.get (by first | walk_at "mem" | simp)⟩ ia₂ (by walk_at "look") (by kernel_rfl!) (by kernel_rfl!) ?_
  refine T.callWith ?_ rfl
  walk_at "nm"
  refine ⟨Keeps.frag (GG H₂).k (by kernel_rfl!), T.call ?_⟩
  refine set_seq2 (hsm := hsm) G (BB H₂) hn hh' (by (first | lia | omega)) (Hx H₂) (H₂.get (by first | walk_at "mem" | simp)) ia₂ (u := u) (by walk_at "look") hu (hd.sub (D := [dx]) H₂.base (fun a q => by cases q; simpa using hbd) (fun a q => by subst q; simpa using fun z => nu (by rw [z]))) nu (by walk_at "look") (by walk_at "look") (by walk_at "look") (hl.at fun o eo => H₂.old eo (by simpa using hbd)) hi hz fun h₃ od₃ d dj dp led s₃ g₃ ia₃ b₃ gj => ⟨(fun b q => by cases q), ?_⟩
  exact T.execs_nil (q h₃ od₃ d dj dp led (H₂.base.trans s₃) g₃ ia₃ b₃ gj)
end
end Mine

end
section
open PySem PySem.W PyProof.Rows PySem.Calls
set_option Elab.async false
set_option linter.unusedVariables false
set_option maxRecDepth 100000
set_option maxHeartbeats 4000000
namespace Mine
section
variable {prog : Program} {w : World} {A : Around} {h h' h₀ : Heap}
noncomputable def am0 (ax bx d dj dp : Addr) : Str → Option Value :=
  am2 (upd (upd (upd (upd (upd (upd (upd (fun _ => none) (Str.ofString "isjunk") .none) (Str.ofString "a") .none) (Str.ofString "b") .none) (Str.ofString "autojunk") (.bool false)) (Str.ofString "a") (.ref ax)) (Str.ofString "matching_blocks") .none) (Str.ofString "opcodes") .none) (.ref bx) d dj dp

theorem init_matcher {x dx ax bx : Addr} {vs ws : List Value} {ns : List Int} {hb : Heap} {Q : Value → Heap → Prop} (G : Gr (frag w.params) hb) (B : Sub [] hb h) (hn : hb.get? dx = none) (hh : A.handled = none) (hroom : A.depth + 7 < recursionLimit)
    (ho : h.get? x = some (instObj aSM dx)) (hdx : h.get? dx = some (dictOf [] 0)) (hla : h.IsList ax ws.toArray) (hl : h.IsList bx vs.toArray) (hi : IntsAre vs ns) (hz : ns.length < 100000)
    (q : ∀ h' od' d dj dp led, Sub [dx] h h' → h'.get? dx = some od' → IsAttrs attrN od' (am0 ax bx d dj dp) → B2J prog w h' d ns → h'.get? dj = some (emptySet led) → Q .none h') :
    TC prog w A (.call (.ref at_SequenceMatcher_init) ⟨[.ref x, .none, .ref ax, .ref bx, .bool false], []⟩) h Q := by
  have ia : IsAttrs attrN (dictOf [] 0) fun _ => none := IsAttrs.nil
  refine TC.defB (binds := [(Str.ofString "self", .ref x), (Str.ofString "isjunk", .none), (Str.ofString "a", .ref ax), (Str.ofString "b", .ref bx), (Str.ofString "autojunk", .bool false)]) [(dx, dictOf [] 0)] (fn_init w.params) (G.sub B) (by (first | lia | omega)) (bindsK (T := 153) (o := o153 w.params) (G.sub B).k rfl (by kernel_rfl!) rfl rfl rfl) (by kernel_rfl!) (by simpa using hdx) (by first | walk_at "mem" | simp) fun h₁ L H => ?_
  have e := (fn_init w.params).ok L
  have k1 : (callEnv fdOf_SequenceMatcher_init L at_SequenceMatcher_init).kindOf (Str.ofString "self") = some .local := by kernel_rfl!
  have k2 : (callEnv fdOf_SequenceMatcher_init L at_SequenceMatcher_init).kindOf (Str.ofString "a") = some .local := by kernel_rfl!
  have k3 : (callEnv fdOf_SequenceMatcher_init L at_SequenceMatcher_init).kindOf (Str.ofString "b") = some .local := by kernel_rfl!
  have k4 : (callEnv fdOf_SequenceMatcher_init L at_SequenceMatcher_init).kindOf (Str.ofString "isjunk") = some .local := by kernel_rfl!
  have k5 : (callEnv fdOf_SequenceMatcher_init L at_SequenceMatcher_init).kindOf (Str.ofString "autojunk") = some .local := by kernel_rfl!
  replace H : S h [dx] L (upd (upd (upd (upd (upd (fun _ => none) (Str.ofString "self") (.ref x)) (Str.ofString "isjunk") .none) (Str.ofString "a") (.ref ax)) (Str.ofString "b") (.ref bx)) (Str.ofString "autojunk") (.bool false)) [(dx, dictOf [] 0)] h₁ := H
  generalize henv : callEnv fdOf_SequenceMatcher_init L at_SequenceMatcher_init = env at *
  have hL : L = env.locals := by rw [← henv]; rfl
  subst hL
  clear henv
  have hh' : (A.deeper env).handled = none := hh
  have hd' : (A.deeper env).depth + 6 < recursionLimit := by show A.depth + 1 + 6 < _; (first | lia | omega)
  generalize A.deeper env = A' at *
  have hxd := inst_ne ho hdx ia
  have had := list_ne hla hdx ia
  have hbd := list_ne hl hdx ia
  have GG : ∀ {m l h₂}, S h [dx] env.locals m l h₂ → Gr (frag w.params) h₂ := fun H => gr_in G B hn H
  have Hx : ∀ {m l h₂}, S h [dx] env.locals m l h₂ → h₂.get? x = some (instObj aSM dx) := fun H => H.old ho (by simpa using hxd)
  have BB : ∀ {m l h₂}, S h [dx] env.locals m l h₂ → Sub [] hb h₂ := fun H b o _ eb => H.base b o (fun q => by
    obtain rfl : b = dx := by simpa using q
    rw [hn] at eb; cases eb) (B b o (by first | walk_at "mem" | simp) eb)
  have P := plainSM w.params
  refine T.execs_cons (T.Expr (T.cStr fun t => ⟨(fun b q => by cases q), ?_⟩) e.inter)
  refine T.execs_cons (t_Assign_Attr ?_)
  walk_at "nm"
  walk_at "nm"
  refine T.setAttr P (GG H).k H 0 rfl (Hx H) ia (attrTake _ (by delta attrN; walk_at "mem")) (fun h₂ od₂ H₂ _ ia₂ _ => ?_) (by delta attrN; walk_at "mem") (by decide)
  refine T.execs_cons (t_Assign2 (T.cNone (t_assignAttr ?_)))
  walk_at "nm"
  refine T.setAttr P (GG H₂).k H₂ 0 rfl (Hx H₂) ia₂ (attrTake _ (by delta attrN; walk_at "mem")) (fun h₃ od₃ H₃ _ ia₃ _ => t_assignAttr ?_) (by delta attrN; walk_at "mem") (by decide)
  walk_at "nm"
  refine T.setAttr P (GG H₃).k H₃ 0 rfl (Hx H₃) ia₃ (attrTake _ (by delta attrN; walk_at "mem")) (fun h₄ od₄ H₄ _ ia₄ _ => ?_) (by delta attrN; walk_at "mem") (by decide)
  refine T.execs_cons (t_Assign_Attr ?_)
  walk_at "nm"
  walk_at "nm"
  refine T.setAttr P (GG H₄).k H₄ 0 rfl (Hx H₄) ia₄ (attrTake _ (by delta attrN; walk_at "mem")) (fun h₅ od₅ H₅ _ ia₅ _ => ?_) (by delta attrN; walk_at "mem") (by decide)
  refine T.execs_cons (T.Expr (T.Call_method ?_) e.inter)
  walk_at "nm"
  refine T.getMeth (f := at_SequenceMatcher_set_seqs) P (GG H₅).k ⟨Hx H₅, H₅.get (by first | walk_at "mem" | simp)⟩ ia₅ (by repeat (first | exact rfl | refine upd_next (by decide +kernel) ?_)) (by kernel_rfl!) (by kernel_rfl!) ?_
  refine T.callWith ?_ rfl
  walk_at "nm"
  walk_at "nm"
  refine ⟨Keeps.frag (GG H₅).k (by kernel_rfl!), T.call ?_⟩
  refine set_seqs G (BB H₅) hn hh' (by (first | lia | omega)) (Hx H₅) (H₅.get (by first | walk_at "mem" | simp)) ia₅ (v := .none) (u := .none) (by walk_at "look") rfl (.inl ⟨rfl, by simp⟩) (by first | walk_at "mem" | simp) (by walk_at "look") rfl (.inl ⟨rfl, by simp⟩) (by first | walk_at "mem" | simp) (by walk_at "look") (by walk_at "look") (by repeat (first | exact rfl | refine upd_next (by decide +kernel) ?_)) (by repeat (first | exact rfl | refine upd_next (by decide +kernel) ?_)) (by repeat (first | exact rfl | refine upd_next (by decide +kernel) ?_))
    (hla.at fun o eo => H₅.old eo (by simpa using had)) (hl.at fun o eo => H₅.old eo (by simpa using hbd)) hi hz fun h₆ od₆ d dj dp led s₆ g₆ ia₆ b₆ gj => ⟨(fun b q => by cases q), ?_⟩
  exact T.execs_nil (q h₆ od₆ d dj dp led (H₅.base.trans s₆) g₆ ia₆ b₆ gj)

theorem make_matcher {L ax bx : Addr} {m : Str → Option Value} {l : List (Addr × Obj)} {vs ws : List Value} {ns : List Int} {Q : Value → Heap → Prop} (G : Gr (frag w.params) h₀) (H : S h₀ [] L m l h) (hh : A.handled = none) (hroom : A.depth + 12 < recursionLimit)
    (hla : h.IsList ax ws.toArray) (hl : h.IsList bx vs.toArray) (hi : IntsAre vs ns) (hz : ns.length < 100000)
    (q : ∀ x dx h' od' d dj dp led, S h₀ [] L m ((x, instObj aSM dx) :: (dx, od') :: l) h' → IsAttrs attrN od' (am0 ax bx d dj dp) → B2J prog w h' d ns → h'.get? dj = some (emptySet led) → (∀ b o, b ≠ L → h.get? b = some o → h'.get? b = some o) → Q (.ref x) h') :
    T prog w A (call (.ref aSM) [.none, .ref ax, .ref bx, .bool false]) h Q := by
  refine T.call (TC.make (K := frag w.params) (fI := at_SequenceMatcher_init) (H.gr G).k (by kernel_rfl!) (by kernel_rfl!) (by kernel_rfl!) H.ns fun x dx h₁ s₁ n₁ gx gdx fx fdx => ?_)
  have H₁ := H.frame s₁ n₁
  have listL : ∀ {a : Addr} {us : Array Value}, h.IsList a us → h₁.IsList a us := fun hl => by
    obtain ⟨ol, h1, h2, n, h3⟩ := hl
    refine ⟨ol, s₁ _ _ (fun q => ?_) h1, h2, n, h3⟩
    obtain ⟨oL, _, _, e1, e2, _⟩ := H.ns
    have : L = _ := (by simpa using q : _ = L).symm
    rw [this, h1] at e1
    cases e1
    rw [h3] at e2; cases e2
  have f1 := H.fresh fdx
  have f2 := H.fresh fx
  have hxd : x ≠ dx := fun q => by rw [q, gdx] at gx; cases gx
  refine init_matcher G (fun b o nb eb => H₁.base b o nb eb) f1.1 hh ?_ gx gdx (listL hla) (listL hl) hi hz fun h₂ od₂ d dj dp led s₂ g₂ ia₂ b₂ gj => ⟨rfl, ?_⟩
  · rw [depth_under_make]; (first | lia | omega)
  · have H₂ : S h₀ [] L m l h₂ := H₁.keepBut s₂ fun b hb => by
      obtain rfl : b = dx := by simpa using hb
      exact ⟨by simp, f1.1, f1.2.1, f1.2.2⟩
    have gx₂ : h₂.get? x = some (instObj aSM dx) := s₂ _ _ (by simpa using hxd) gx
    have H₃ := (H₂.track g₂ f1.1 f1.2.1 f1.2.2).track gx₂ f2.1 f2.2.1 (by
      rw [List.map_append, List.mem_append]
      exact fun q => q.elim f2.2.2 fun q => hxd (by simpa using q))
    refine q x dx h₂ od₂ d dj dp led (H₃.perm ?_) ia₂ b₂ gj fun b o nb eb => s₂ b o (fun q => ?_) (s₁ b o (by simpa using nb) eb)
    · rw [List.append_assoc]
      exact (List.perm_append_comm).trans (List.Perm.swap _ _ _)
    · obtain rfl : b = dx := by simpa using q
      rw [fdx] at eb; cases eb
end
end Mine

end
section
open PySem PySem.W PyProof.Rows PySem.Calls
set_option Elab.async false
set_option linter.unusedVariables false
set_option maxRecDepth 100000
set_option maxHeartbeats 4000000
namespace Mine
noncomputable def bnd (id : String) (v : Value) : Obj := { cls := .type "builtin_function_or_method", data := .fields #[.builtin id, v] }
theorem slot_md_get : Slot "method_descriptor" "__get__" "method_descriptor.__get__" :=
  .of (owner := "method_descriptor") (n := "__get__") (by rw [typeLookup_type, builtinLookup_eq_fast]; kernel_rfl) (by decide +kernel) (by decide +kernel) (by decide +kernel)
    (by first | exact .inl (by decide +kernel) | exact .inr (by decide +kernel)) (by rw [isSubtype_type]; kernel_rfl)
theorem entry_md_get : entryFor table "method_descriptor.__get__" = some Builtin.«method_descriptor.__get__» := entryFor_of_tree (by kernel_rfl)
theorem args_md_get (a b c : Value) : argsOk "method_descriptor.__get__" ⟨[a, b, c], []⟩ := by unfold argsOk; kernel_rfl
section
variable {prog : Program} {w : World} {M : Model} {A : Around} {E : Value → Shared → Prop} {s : Shared} {h h' h₀ : Heap}
noncomputable def GetsBound (id T' : String) : Prop := ∀ {M : Model} {A : Around} {E : Value → Shared → Prop} {s : Shared} {a : Addr} {P : Fin → Shared → Prop}, s.TypeIs (.ref a) T' → P (.done (.ret (.ref s.heap.objs.size))) { s with heap := s.heap.push (bnd id (.ref a)) } →
    wpAny M A (Builtin.«method_descriptor.__get__» ⟨[.builtin id, .ref a, .type T'], []⟩) P E s
theorem sub_dict : isSubtype (.type "dict") (.type "dict") = pure true := by rw [isSubtype_type]; kernel_rfl
theorem sub_set : isSubtype (.type "set") (.type "set") = pure true := by rw [isSubtype_type]; kernel_rfl
theorem gets_dict_get : GetsBound "dict.get" "dict" := by
  intro M A E s a P hT q
  have e1 : ".".intercalate ("dict.get".cutAt '.').dropLast = "dict" := by decide +kernel
  unfold Builtin.«method_descriptor.__get__»
  refine wpAny_bind (wpAny_of_eq (a := (.builtin "dict.get", some (.ref a), some (.type "dict"))) (by first | rfl | kernel_rfl) ?_)
  dsimp only
  rw [if_neg (by decide +kernel)]
  repeat (first | (with_reducible refine wpAny_isInstance (b := true) hT sub_dict ?_) | rw [e1] | (with_reducible refine wpAny_newObj_type ?_) | lk)
  exact q
theorem gets_set_contains : GetsBound "set.__contains__" "set" := by
  intro M A E s a P hT q
  have e1 : ".".intercalate ("set.__contains__".cutAt '.').dropLast = "set" := by decide +kernel
  unfold Builtin.«method_descriptor.__get__»
  refine wpAny_bind (wpAny_of_eq (a := (.builtin "set.__contains__", some (.ref a), some (.type "set"))) (by first | rfl | kernel_rfl) ?_)
  dsimp only
  rw [if_neg (by decide +kernel)]
  repeat (first | (with_reducible refine wpAny_isInstance (b := true) hT sub_set ?_) | rw [e1] | (with_reducible refine wpAny_newObj_type ?_) | lk)
  exact q
theorem noset_md : typeLookup (.type "method_descriptor") "__set__" = pure none := by rw [typeLookup_type, builtinLookup_eq_fast]; kernel_rfl
theorem nodel_md : typeLookup (.type "method_descriptor") "__delete__" = pure none := by rw [typeLookup_type, builtinLookup_eq_fast]; kernel_rfl
noncomputable def dictAt (c : Data) (a : Addr) : Sem (Option Addr) := match c with | .cls c => pure (some c.ns) | _ => instanceDict a false
theorem notCls {c : Data} {a : Addr} (hc : ∀ k, c ≠ .cls k) : dictAt c a = instanceDict a false := by
  cases c <;> first | rfl | exact absurd rfl (hc _)
theorem meets_bound {id T' : String} {name : Str} (a : Addr) (c : Data) (sl : Array (Option Value)) (u : Tok) (hG : GetsBound id T')
    (hl : typeLookup (.type T') name = pure (some (.builtin id))) (hty : typeOf (.builtin id) = pure (.type "method_descriptor")) (hname : (["__module__", "__name__", "__qualname__", "__doc__", "__annotations__"] : List Str).contains name = false) (hc : ∀ k, c ≠ .cls k) :
    Meets (Builtin.«object.__getattribute__» ⟨[.ref a, .str name u], []⟩) (fun A R s => s.heap.get? a = some { cls := .type T', dict := none, data := c, slots := sl } ∧ R (.ok (.ret (.ref s.heap.objs.size))) { s with heap := s.heap.push (bnd id (.ref a)) }) :=
  Meets.of_wp fun prog w A R s hs => by
    obtain ⟨hp, g, d, tk, os⟩ := s
    obtain ⟨hx, hs⟩ := hs
    have hT : (⟨hp, g, d, tk, os⟩ : Shared).TypeIs (.ref a) T' := ⟨_, hx, rfl⟩
    have f1 := slot_md_get.lookup
    have f2 := noset_md
    have f3 := nodel_md
    unfold Builtin.«object.__getattribute__»
    repeat (any_goals (first | assumption | wp_step))
    show wpAny _ _ (dictAt c a) _ _ _
    rw [notCls hc]
    repeat (any_goals (first | assumption | wp_step))
    simp only [hname, Bool.false_eq_true, if_false]
    repeat (any_goals (first | assumption | wp_step))
    refine codeAny_call_builtin slot_md_get.plain entry_md_get (slot_md_get.check _ _ _ _ _ _ _ _ hty (args_md_get _ _ _) (hG ⟨_, hx, rfl⟩ ?_))
    exact wpAny_pure ⟨_, rfl, hs⟩

theorem entry_set_getattribute : entryFor table "set.__getattribute__" = some Builtin.«object.__getattribute__» :=
  entryFor_alias (id' := "object.__getattribute__") (by kernel_rfl) (by decide +kernel) (by decide +kernel) (by kernel_rfl)
theorem bound_dict_get {a : Addr} {o : Obj} {Q : Value → Shared → Prop} (hx : s.heap.get? a = some o) (hc : o.cls = .type "dict") (hd : o.dict = none) (hk : ∀ k, o.data ≠ .cls k)
    (q : Q (.ref s.heap.objs.size) { s with heap := s.heap.push (bnd "dict.get" (.ref a)), toks := s.toks + 1 }) : wpAny (model prog w) A (getAttr (.ref a) (Str.ofString "get") true) Q E s := by
  obtain ⟨c, dct, dat, sl⟩ := o
  simp only at hc hd hk
  subst hc hd
  obtain ⟨hp, g, d, tk, os⟩ := s
  have hT : ∀ tk', (⟨hp, g, d, tk', os⟩ : Shared).TypeIs (.ref a) "dict" := fun _ => ⟨_, hx, rfl⟩
  have f3 := F.slot_dict_getattribute.lookup
  have f4 := F.slot_dict_getattribute.bind (.ref a)
  have f5 := am_dict_getattr_none
  unfold getAttr getAttrBy
  repeat (any_goals (first | assumption | exact hT _ | ((with_reducible show wpAny _ _ (call (Value.builtin "dict.__getattribute__") _ _) _ _ _); refine call_meets F.slot_dict_getattribute (hT _) am_entry_dict_getattribute (F.args_dict_getattribute_2 _ _) (meets_bound (name := Str.ofString "get") a dat sl _ gets_dict_get F.slot_dict_get.lookup F.type_dict_get (by decide +kernel) hk) ⟨hx, ?_⟩) | wp_step))
  exact wpAny_pure q
theorem bound_set_contains {a : Addr} {o : Obj} {Q : Value → Shared → Prop} (hx : s.heap.get? a = some o) (hc : o.cls = .type "set") (hd : o.dict = none) (hk : ∀ k, o.data ≠ .cls k)
    (q : Q (.ref s.heap.objs.size) { s with heap := s.heap.push (bnd "set.__contains__" (.ref a)), toks := s.toks + 1 }) : wpAny (model prog w) A (getAttr (.ref a) (Str.ofString "__contains__") true) Q E s := by
  obtain ⟨c, dct, dat, sl⟩ := o
  simp only at hc hd hk
  subst hc hd
  obtain ⟨hp, g, d, tk, os⟩ := s
  have hT : ∀ tk', (⟨hp, g, d, tk', os⟩ : Shared).TypeIs (.ref a) "set" := fun _ => ⟨_, hx, rfl⟩
  have f3 := F.slot_set_getattribute.lookup
  have f4 := F.slot_set_getattribute.bind (.ref a)
  unfold getAttr getAttrBy
  repeat (any_goals (first | assumption | exact hT _ | ((with_reducible show wpAny _ _ (call (Value.builtin "set.__getattribute__") _ _) _ _ _); refine call_meets F.slot_set_getattribute (hT _) entry_set_getattribute (F.args_set_getattribute_2 _ _) (meets_bound (name := Str.ofString "__contains__") a dat sl _ gets_set_contains F.slot_set_contains.lookup F.type_set_contains (by decide +kernel) hk) ⟨hx, ?_⟩) | wp_step))
  exact wpAny_pure q

theorem call_bound {id : String} {u : Addr} {self : Value} {rest : List Value} {B : Builtin} {S : PySem.Spec} {Q : Value → Shared → Prop} (hu : s.heap.get? u = some (bnd id self))
    (hchk : ∀ (E' : Value → Shared → Prop) (Q' : Unit → Shared → Prop), Q' () s → wpAny (model prog w) A.in1 (checkBoundCall id ⟨self :: rest, []⟩) Q' E' s) (plain : plainId id = true) (entry : entryFor table id = some B) (g : MeetsIn prog w (B ⟨self :: rest, []⟩) S) (hS : S A (wants Q E) s) :
    wpAny (model prog w) A (call (.ref u) rest) Q E s := by
  refine wpAny_call (codeAny_of_tree ?_)
  show wpAny _ A.in1 (callAny (.ref u) ⟨rest, []⟩) _ _ s
  unfold callAny
  refine wpAny_bind (wpAny_load hu ?_)
  show wpAny _ A.in1 (do checkBoundCall id ⟨self :: rest, []⟩; again (.builtin id ⟨self :: rest, []⟩)) _ _ s
  refine wpAny_bind (hchk _ _ ?_)
  refine wpAny_pure (And.intro (plainId_quiet plain _) (codeAny_builtin entry ?_))
  rw [Around.under_plainId plain]
  exact g A (wants Q E) s hS
end
end Mine

end
section
open PySem PySem.W PyProof.Rows PySem.Calls
set_option Elab.async false
set_option linter.unusedVariables false
set_option maxRecDepth 100000
set_option maxHeartbeats 4000000
namespace Mine
section
variable {prog : Program} {w : World} {M : Model} {A : Around} {E : Value → Shared → Prop} {s : Shared} {h h' h₀ : Heap}
theorem kind_dict_get : builtinKind "dict.get" = some .method := by kernel_rfl
theorem kind_set_contains : builtinKind "set.__contains__" = some .method := by kernel_rfl
theorem sub_mod_dict : isSubtype (.type "dict") (.type "module") = pure false := by rw [isSubtype_type]; kernel_rfl
theorem sub_mod_set : isSubtype (.type "set") (.type "module") = pure false := by rw [isSubtype_type]; kernel_rfl
noncomputable def isCls : Data → Bool
  | .cls _ => true
  | _ => false
theorem check_bound {id T' : String} {a : Addr} {o : Obj} {rest : List Value} {Q' : Unit → Shared → Prop} (hs : (Manifest.signature? id).map (fun sig => Bind.checkArgs id { sig with full := s!"{Bind.lastOf T'}.{Bind.lastOf id}" } ⟨.ref a :: rest, []⟩) = some (Pure.pure ())) (hk : builtinKind id = some .method)
    (hv : Manifest.varargsMethods.contains id = false) (hm : isSubtype (.type T') (.type "module") = pure false) (ho : s.heap.get? a = some o) (hc : o.cls = .type T') (hd : isCls o.data = false) (q : Q' () s) : wpAny M A (checkBoundCall id ⟨.ref a :: rest, []⟩) Q' E s := by
  unfold checkBoundCall
  cases e : Manifest.signature? id with
  | none => rw [e] at hs; cases hs
  | some sig =>
    rw [e] at hs
    dsimp only
    rw [hk]
    dsimp only
    rw [if_neg (by decide)]
    refine wpAny_bind (wpAny_isInstance (b := false) ⟨o, ho, hc⟩ hm ?_)
    rw [hv, if_neg (by decide)]
    refine wpAny_bind (m := isType (.ref a)) ?_
    unfold isType
    refine wpAny_bind (wpAny_load ho ?_)
    show wpAny M A (Pure.pure (isCls o.data)) _ _ _
    rw [hd]
    refine wpAny_pure ?_
    rw [if_neg Bool.false_ne_true]
    refine wpAny_bind (wpAny_typeOf (T := T') ⟨o, ho, hc⟩ ?_)
    dsimp only
    have e2 := Option.some.inj hs
    refine wpAny_of_eq e2 ?_
    exact q

theorem t_boundGet {a : Addr} {o : Obj} {Q : Value → Heap → Prop} (hx : h.get? a = some o) (hc : o.cls = .type "dict") (hd : o.dict = none) (hk : isCls o.data = false) (q : ∀ u h', Sub [] h h' → h.get? u = none → h'.get? u = some (bnd "dict.get" (.ref a)) → Q (.ref u) h') :
    T prog w A (PySem.getAttr (.ref a) (Str.ofString "get") true) h Q := fun s es => by
  subst es
  exact bound_dict_get hx hc hd (fun k e => by rw [e] at hk; cases hk) ⟨_, _, rfl, q _ _ (Sub.push _ _) (get_size_none _) (get_push_self _ _)⟩
theorem t_boundHas {a : Addr} {o : Obj} {Q : Value → Heap → Prop} (hx : h.get? a = some o) (hc : o.cls = .type "set") (hd : o.dict = none) (hk : isCls o.data = false) (q : ∀ u h', Sub [] h h' → h.get? u = none → h'.get? u = some (bnd "set.__contains__" (.ref a)) → Q (.ref u) h') :
    T prog w A (PySem.getAttr (.ref a) (Str.ofString "__contains__") true) h Q := fun s es => by
  subst es
  exact bound_set_contains hx hc hd (fun k e => by rw [e] at hk; cases hk) ⟨_, _, rfl, q _ _ (Sub.push _ _) (get_size_none _) (get_push_self _ _)⟩
theorem isCls_dic {o : Obj} {kvs : List (Int × Value)} (x : IsDic prog w o kvs) : isCls o.data = false := by
  obtain ⟨_, _, _, e, _⟩ := x
  rw [e]; rfl
theorem t_callGet {d u : Addr} {o : Obj} {kvs : List (Int × Value)} {k : Int} {t : Tok} {dflt : Value} {Q : Value → Heap → Prop} (hu : h.get? u = some (bnd "dict.get" (.ref d))) (ho : h.get? d = some o) (hd : IsDic prog w o kvs) (lo : (d == sysModules) = false) (q : Q ((valueAt kvs k).getD dflt) h) :
    T prog w A (PySem.call (.ref u) [.int k t, dflt]) h Q := fun s es => by
  subst es
  have hD := dicOf (prog := prog) (w := w) ho hd
  refine call_bound hu (fun E' Q' q' => check_bound (T' := "dict") ?_ kind_dict_get (by decide +kernel) sub_mod_dict ho hd.cls.1 (isCls_dic hd) q') PySem.F.slot_dict_get.plain PySem.F.entry_dict_get (meets_dict_get_default (intKind prog w) d (intKind_is prog w k t) lo dflt) ⟨_, hD.mapOf, ⟨_, _, rfl, q⟩⟩
  rw [signature?_of (id := "dict.get") (n := ['t', 'e', 'g']) (o := ['t', 'c', 'i', 'd']) (by kernel_rfl) PySem.F.owner_dict]; kernel_rfl
end
end Mine

end
section
open PySem PySem.W PyProof.Rows PySem.Calls
set_option Elab.async false
set_option linter.unusedVariables false
set_option maxRecDepth 100000
set_option maxHeartbeats 4000000
namespace Mine
section
variable {prog : Program} {w : World} {A : Around} {h h' h₀ : Heap}
theorem meets_set_has {k : Int} {t : Tok} {a : Addr} {S : Int → Bool} {n : Nat} : MeetsIn prog w (Builtin.«frozenset.__contains__» ⟨[.ref a, .int k t], []⟩) (fun A R s => s.heap.SetOf (intKind prog w) a S n ∧ R (.ok (.ret (.bool (S k)))) { s with toks := s.toks + 1 }) := by
  rintro A R s ⟨hS, q⟩
  unfold Builtin.«frozenset.__contains__» Builtin.Frozenset.oneOther
  simp only [List.isEmpty_nil, bind_assoc]
  unfold Builtin.Frozenset.addrOf Builtin.Frozenset.withSetAsKey setContains
  refine wpAny_bind (wpAny_pure ?_)
  try dsimp only
  refine wpAny_bind (wpAny_pure ?_)
  try dsimp only
  refine wpAny_bind (wpAny_tryCatch ?_)
  refine wpAny_holding ?_
  refine wpAny_bind ((intKind prog w).pyHash (intKind_is prog w k t) ?_)
  refine wpAny_bind (wpAny_setFind_of (s := { s with toks := s.toks + 1 }) (intKind_is prog w k t) rfl hS fun r hr => ?_)
  refine wpAny_pure ?_
  show wpAny _ _ (ret (Value.bool r.isSome)) _ _ _
  rw [hr]
  exact wpAny_pure q
theorem emptySet_of {d : Addr} {led : Bool} (ho : h.get? d = some (emptySet led)) : h.SetOf (intKind prog w) d (fun _ => false) 0 := ⟨_, #[], 0, _, ho, ⟨rfl, rfl, rfl⟩, rfl, fun e he => by simp at he, fun k => by simp, by decide +kernel, by rfl, rfl⟩
theorem check_set_has {s : Shared} {M : Model} {E : Value → Shared → Prop} {d : Addr} {led : Bool} {x : Value} {Q' : Unit → Shared → Prop} (ho : s.heap.get? d = some (emptySet led)) (q : Q' () s) : wpAny M A (checkBoundCall "set.__contains__" ⟨[.ref d, x], []⟩) Q' E s := by
  refine check_bound (id := "set.__contains__") (T' := "set") (a := d) (o := emptySet led) (rest := [x]) ?_ kind_set_contains (by decide +kernel) sub_mod_set ho (by rw [emptySet]) (by rw [emptySet]; rfl) q
  rw [signature?_of (id := "set.__contains__") (n := ['_', '_', 's', 'n', 'i', 'a', 't', 'n', 'o', 'c', '_', '_']) (o := ['t', 'e', 's']) (by kernel_rfl) PySem.F.owner_set]; kernel_rfl
theorem t_callHas {d u : Addr} {led : Bool} {k : Int} {t : Tok} {Q : Value → Heap → Prop} (hu : h.get? u = some (bnd "set.__contains__" (.ref d))) (ho : h.get? d = some (emptySet led)) (q : Q (.bool false) h) :
    T prog w A (PySem.call (.ref u) [.int k t]) h Q := fun s es => by
  subst es
  have hS := emptySet_of (prog := prog) (w := w) ho
  have hpl := PySem.F.slot_set_contains.plain
  exact call_bound (id := "set.__contains__") (self := .ref d) (rest := [.int k t]) (B := Builtin.«frozenset.__contains__») hu (fun E' Q' q' => check_set_has ho q') hpl entry_set_contains (meets_set_has (S := fun _ => false) (n := 0)) ⟨hS, ⟨_, _, rfl, q⟩⟩
end
end Mine

end
section
open PySem PySem.W PyProof.Rows PySem.Calls
set_option Elab.async false
set_option linter.unusedVariables false
set_option maxRecDepth 100000
set_option maxHeartbeats 4000000
namespace Mine
structure Loc (env : Env) (xs : List Str) : Prop where
  h : ∀ y ∈ xs, env.kindOf y = some .local
theorem Loc.of {env : Env} {xs : List Str} {y : Str} (L : Loc env xs) (hy : y ∈ xs) : env.kindOf y = some .local := L.h y hy
theorem Loc.subs {env : Env} {xs ys : List Str} (L : Loc env xs) (h : (ys.all fun y => xs.contains y) = true) : ∀ y ∈ ys, env.kindOf y = some .local := fun y hy => L.h y (by simpa using List.all_eq_true.mp h y hy)
theorem Loc.mk' {env : Env} {xs : List Str} (h : (xs.all fun y => decide (env.kindOf y = some .local)) = true) : Loc env xs := ⟨fun y hy => of_decide_eq_true (List.all_eq_true.mp h y hy)⟩
local macro_rules | `(tactic| walk_at "nm") => `(tactic| refine T.Name (by assumption) (by assumption) (by walk_at "look") ?_ (Loc.of (by assumption) (by first | walk_at "mem" | simp)) (by decide +kernel))
noncomputable def forBody : Stmt → List Stmt
  | .For _ _ b _ _ => b
  | _ => []
noncomputable def flmB : List Stmt := bodyN (stN (bodyN (stN pwBody 5)) 6)
noncomputable def outB : List Stmt := forBody (stN flmB 7)
noncomputable def inB : List Stmt := forBody (stN outB 2)
noncomputable abbrev flmN : List Str := [(Str.ofString "self"), (Str.ofString "alo"), (Str.ofString "ahi"), (Str.ofString "blo"), (Str.ofString "bhi"), (Str.ofString "a"), (Str.ofString "b"), (Str.ofString "b2j"), (Str.ofString "isbjunk"), (Str.ofString "besti"), (Str.ofString "bestj"), (Str.ofString "bestsize"), (Str.ofString "j2len"), (Str.ofString "nothing"), (Str.ofString "i"), (Str.ofString "j2lenget"), (Str.ofString "newj2len"), (Str.ofString "j"), (Str.ofString "k")]
section
variable {prog : Program} {w : World} {A : Around} {h h' h₀ : Heap} {env : Env} {m : Str → Option Value}

theorem sw_of {fd : FuncData} {ts : List PySem.Expr} {v : PySem.Expr} {r : Sem (Option (List Str))} (hsc : env.scope = fd.scope) (h : swappedStores ts v (callEnv fd 0 0) = r) : swappedStores ts v env = r := (sw_scope (env' := callEnv fd 0 0) hsc).trans h
theorem flm_turn {ns ms : List Int} {alo blo bhi i jn bi bj bk : Nat} {ug dj2 dn I : Addr} {oj2 on o : Obj} {kvs2 kvsn : List (Int × Value)} {rest : List (Addr × Obj)} {tb th ti t1 t2 t3 tj : Tok} 
    (e : EnvOk env) (hL : Loc env flmN) (hsc : env.scope = fdOf_SequenceMatcher_find_longest_match.scope) (hh : A.handled = none)
    (m1 : m (Str.ofString "blo") = some (.int blo tb)) (m2 : m (Str.ofString "bhi") = some (.int bhi th)) (m3 : m (Str.ofString "i") = some (.int i ti)) (m4 : m (Str.ofString "j2lenget") = some (.ref ug)) (m5 : m (Str.ofString "newj2len") = some (.ref dn))
    (m6 : m (Str.ofString "besti") = some (.int bi t1)) (m7 : m (Str.ofString "bestj") = some (.int bj t2)) (m8 : m (Str.ofString "bestsize") = some (.int bk t3))
    (g1 : (ug, bnd "dict.get" (.ref dj2)) ∈ rest) (g2 : (dj2, oj2) ∈ rest) (hd2 : IsDic prog w oj2 kvs2) (hdn : IsDic prog w on kvsn) (lo2 : (dj2 == sysModules) = false)
    (hr : Row kvs2 (fun n => run ns ms alo blo i (n + 1)) (· < bhi)) (hz : kvsn.length ≤ 100000)
    (hrun : blo ≤ jn → run ns ms alo blo (i + 1) (jn + 1) = run ns ms alo blo i jn + 1)
    (H : S h₀ [] env.locals (upd m (Str.ofString "j") (.int jn tj)) ((dn, on) :: rest ++ [(I, o)]) h)
    {Q : Flow → Heap → Prop} (qc : ∀ h₃, jn < blo → S h₀ [] env.locals (upd m (Str.ofString "j") (.int jn tj)) ((dn, on) :: rest ++ [(I, o)]) h₃ → Q .cont h₃) (qb : ∀ h₃, bhi ≤ jn → S h₀ [] env.locals (upd m (Str.ofString "j") (.int jn tj)) ((dn, on) :: rest ++ [(I, o)]) h₃ → Q .brk h₃)
    (qn : ∀ h₃ on' t m' (bi' bj' bk' : Nat) t1 t2 t3, blo ≤ jn → jn < bhi → IsDic prog w on' (stored kvsn jn (.int (run ns ms alo blo (i + 1) (jn + 1) : Nat) t)) → (∀ y, y ≠ (Str.ofString "j") → y ≠ (Str.ofString "k") → y ≠ (Str.ofString "besti") → y ≠ (Str.ofString "bestj") → y ≠ (Str.ofString "bestsize") → m' y = m y) →
          m' (Str.ofString "besti") = some (.int (bi' : Nat) t1) → m' (Str.ofString "bestj") = some (.int (bj' : Nat) t2) → m' (Str.ofString "bestsize") = some (.int (bk' : Nat) t3) →
          (if bk < run ns ms alo blo (i + 1) (jn + 1) then bi' = i + 1 - run ns ms alo blo (i + 1) (jn + 1) ∧ bj' = jn + 1 - run ns ms alo blo (i + 1) (jn + 1) ∧ bk' = run ns ms alo blo (i + 1) (jn + 1) else bi' = bi ∧ bj' = bj ∧ bk' = bk) →
          S h₀ [] env.locals m' ((dn, on') :: rest ++ [(I, o)]) h₃ → Q .next h₃) : T prog w A (execs inB env) h Q := by
  refine T.execs_cons (T.If (T.isTrue_Compare ?_))
  walk_at "nm"
  walk_at "nm"
  refine T.lt (T.truthy_bool ?_)
  apply ite_cases <;> intro _
  · rename_i hc
    have hc : (jn : Int) < blo := of_decide_eq_true hc
    exact T.execs_cons (T.Continue (qc _ (by (first | lia | omega)) H))
  rename_i hc
  have hc : ¬ (jn : Int) < blo := fun q => hc (decide_eq_true q)
  refine T.execs_nil ?_
  refine T.execs_cons (T.If (T.isTrue_Compare ?_))
  walk_at "nm"
  walk_at "nm"
  refine T.ge (T.truthy_bool ?_)
  apply ite_cases <;> intro _
  · rename_i hc
    have hc : (bhi : Int) ≤ jn := of_decide_eq_true hc
    exact T.execs_cons (T.Break (qb _ (by (first | lia | omega)) H))
  rename_i hc2
  have hc2 : ¬ (bhi : Int) ≤ jn := fun q => hc2 (decide_eq_true q)
  refine T.execs_nil ?_
  have hru := hrun (by (first | lia | omega))
  generalize hR : run ns ms alo blo (i + 1) (jn + 1) = R at *
  refine T.execs_cons (t_Assign2 (T.BinOp (T.Call_Name ?_)))
  walk_at "nm"
  refine T.callWith ?_ rfl
  refine T.BinOp ?_
  walk_at "nm"
  refine T.cInt fun u1 => T.sub fun u2 => ?_
  refine T.cInt fun u3 => ?_
  have gu : h.get? ug = some (bnd "dict.get" (.ref dj2)) := H.get (by simp [g1])
  have gd : h.get? dj2 = some oj2 := H.get (by simp [g2])
  refine ⟨Keeps.bound gu rfl rfl, t_callGet gu gd hd2 lo2 ?_⟩
  obtain ⟨t', hget⟩ : ∃ t', (valueAt kvs2 ((jn : Int) - 1)).getD (.int 0 u3) = .int (run ns ms alo blo i jn : Nat) t' := by
    cases jn with
    | zero => exact ⟨u3, by rw [hr.neg (by (first | lia | omega))]; cases i <;> simp [run]⟩
    | succ j =>
      have := hr.get (n := j) (t := u3) (by (first | lia | omega))
      have e1 : ((j + 1 : Nat) : Int) - 1 = (j : Int) := by (first | lia | omega)
      rw [e1]; exact this
  rw [hget]
  refine T.cInt fun u4 => T.add fun u5 => ?_
  have hRi : ((run ns ms alo blo i jn : Nat) : Int) + 1 = (R : Int) := by (first | lia | omega)
  rw [hRi]
  refine t_assignName e H (fun h₁ H₁ => t_assignSub ?_) (hL.of (by simp [flmN]))
  walk_at "nm"
  walk_at "nm"
  have gn : h₁.get? dn = some on := H₁.get (by first | walk_at "mem" | simp)
  refine t_dict_set gn hdn (by rw [sizeLine_eq]; (first | lia | omega)) fun h₂ on' s₂ g₂ d₂ => ?_
  have H₂ : S h₀ [] env.locals _ ((dn, on') :: rest ++ [(I, o)]) h₂ := H₁.upd (o' := on') 0 (d := dn) (o := on) (by first | walk_at "mem" | simp) s₂ g₂
  refine T.execs_cons (T.If (T.isTrue_Compare ?_))
  walk_at "nm"
  walk_at "nm"
  refine T.gt (T.truthy_bool ?_)
  apply ite_cases <;> intro _
  · rename_i hc3
    have hc3 : (bk : Int) < R := of_decide_eq_true hc3
    have fit := run_fits (a := ns) (b := ms) (alo := alo) (blo := blo) (i := i + 1) (j := jn + 1) (by (first | lia | omega))
    refine T.execs_cons ?_
    refine t_AssignSwap (h₀ := h₀) (D := []) (names := [(Str.ofString "besti"), (Str.ofString "bestj"), (Str.ofString "bestsize")]) e hh ?_ (hL.subs (by decide +kernel)) (sw_of hsc (by kernel_rfl!)) rfl
    refine T.BinOp (T.BinOp ?_)
    walk_at "nm"
    walk_at "nm"
    refine T.sub fun u6 => T.cInt fun u7 => T.add fun u8 => ?_
    refine T.BinOp (T.BinOp ?_)
    walk_at "nm"
    walk_at "nm"
    refine T.sub fun u9 => T.cInt fun v1 => T.add fun v2 => ?_
    walk_at "nm"
    refine ⟨by show 3 ≤ sizeLine; decide, rfl, _, _, H₂, fun h₃ H₃ => ?_⟩
    simp only [updAll, List.reverse_cons, List.reverse_nil, List.nil_append, List.cons_append] at H₃
    refine T.execs_nil (T.execs_nil (qn _ on' u5 _ (i + 1 - R) (jn + 1 - R) R u8 v2 u5 (by (first | lia | omega)) (by (first | lia | omega)) d₂ ?_ ?_ ?_ ?_ ?_ H₃))
    · intro y n1 n2 n3 n4 n5; simp [updAll, upd, n1, n2, n3, n4, n5]
    · refine upd_here.trans ?_; congr 2; (first | lia | omega)
    · refine upd_next (by decide +kernel) (upd_here.trans ?_); congr 2; (first | lia | omega)
    · exact upd_next (by decide +kernel) (upd_next (by decide +kernel) upd_here)
    · rw [if_pos (by (first | lia | omega))]; exact ⟨rfl, rfl, rfl⟩
  · rename_i hc3
    have hc3 : ¬ (bk : Int) < R := fun q => hc3 (decide_eq_true q)
    refine T.execs_nil (T.execs_nil (qn _ on' u5 _ bi bj bk t1 t2 t3 (by (first | lia | omega)) (by (first | lia | omega)) d₂ ?_ ?_ ?_ ?_ ?_ H₂))
    · intro y n1 n2 n3 n4 n5; simp [upd, n1, n2]
    · walk_at "look"
    · walk_at "look"
    · walk_at "look"
    · rw [if_neg (by (first | lia | omega))]; exact ⟨rfl, rfl, rfl⟩
end
end Mine

end
local macro_rules | `(tactic| walk_at "nm") => `(tactic| refine Mine.T.Name (by assumption) (by assumption) (by walk_at "look") ?_ (Mine.Loc.of (by assumption) (by first | walk_at "mem" | simp)) (by decide +kernel))
section
open PySem PySem.W PyProof.Rows PySem.Calls
set_option Elab.async false
set_option linter.unusedVariables false
namespace Mine
section
variable {ns ms : List Int} {alo blo bhi i idx jn : Nat} {k : Int} {kvs : List (Int × Value)} {bi bj bk : Nat}
theorem run_zero (h : ¬ (blo ≤ jn ∧ ns[i]? = ms[jn]?)) : run ns ms alo blo (i + 1) (jn + 1) = 0 := by
  rw [run, if_neg fun c => h ⟨c.2.1, c.2.2.2⟩]
theorem run_step (h1 : alo ≤ i) (h2 : blo ≤ jn) (h3 : ns[i]? = some k) (h4 : ms[jn]? = some k) : run ns ms alo blo (i + 1) (jn + 1) = run ns ms alo blo i jn + 1 := by
  have hl : i < ns.length := by
    rcases Nat.lt_or_ge i ns.length with y | y
    · exact y
    · rw [List.getElem?_eq_none y] at h3; cases h3
  rw [run, if_pos ⟨h1, h2, hl, by rw [h3, h4]⟩]
noncomputable def VisI (ps : List Int) (alo i blo bhi idx i' j' : Nat) : Prop := (alo ≤ i' ∧ i' < i ∧ blo ≤ j' ∧ j' < bhi) ∨ (i' = i ∧ blo ≤ j' ∧ j' < bhi ∧ (j' : Int) ∈ ps.take idx)
structure InS (ns ms : List Int) (alo blo bhi i : Nat) (k : Int) (idx : Nat) (kvs : List (Int × Value)) (bi bj bk : Nat) : Prop where
  row : Row kvs (fun q => run ns ms alo blo (i + 1) (q + 1)) (fun q => q < bhi ∧ ((q : Int) ∈ (places ms k 0).take idx ∨ (q : Int) ∉ places ms k 0))
  sof : Sofar ns ms alo blo (VisI (places ms k 0) alo i blo bhi idx) bi bj bk
  len : kvs.length ≤ idx
theorem not_place (h : (jn : Int) ∉ places ms k 0) : ms[jn]? ≠ some k := fun q => h (places_mem.mpr ⟨jn, by simp, q⟩)
theorem place_at (h : (places ms k 0)[idx]? = some (jn : Int)) : ms[jn]? = some k := by
  obtain ⟨n, e, q⟩ := places_mem.mp (List.mem_of_getElem? h)
  obtain rfl : jn = n := by (first | lia | omega)
  exact q
theorem place_nat {j : Int} (h : (places ms k 0)[idx]? = some j) : ∃ jn : Nat, j = jn := by
  obtain ⟨n, e, q⟩ := places_mem.mp (List.mem_of_getElem? h)
  exact ⟨n, by (first | lia | omega)⟩
theorem mem_take_succ {ps : List Int} {x : Int} (h : ps[idx]? = some x) {y : Int} : y ∈ ps.take (idx + 1) ↔ y ∈ ps.take idx ∨ y = x := by
  rw [List.take_add_one, h]; simp
theorem InS.start (h3 : ns[i]? = some k) (hs : Sofar ns ms alo blo (fun i' j' => alo ≤ i' ∧ i' < i ∧ blo ≤ j' ∧ j' < bhi) bi bj bk) : InS ns ms alo blo bhi i k 0 [] bi bj bk where
  row := Row.nil fun n ⟨_, v⟩ => run_zero fun ⟨_, q⟩ => by
    rcases v with v | v
    · simp at v
    · exact not_place v (by rw [← q, h3])
  sof := hs.more (fun i' j' v => v.elim .inl fun v => by simp at v) fun i' j' v => .inl v
  len := Nat.zero_le _
theorem InS.skip (s : InS ns ms alo blo bhi i k idx kvs bi bj bk) (hp : (places ms k 0)[idx]? = some (jn : Int)) (h : jn < blo) : InS ns ms alo blo bhi i k (idx + 1) kvs bi bj bk where
  row := s.row.skip fun n ⟨hn, v⟩ => by
    rw [mem_take_succ hp] at v
    rcases v with (v | v) | v
    · exact .inl ⟨hn, .inl v⟩
    · exact .inr (run_zero fun ⟨q, _⟩ => by (first | lia | omega))
    · exact .inl ⟨hn, .inr v⟩
  sof := s.sof.more (fun i' j' v => by
    rcases v with v | ⟨v1, v2, v3, v4⟩
    · exact .inl (.inl v)
    · rw [mem_take_succ hp] at v4
      exact .inl (.inr ⟨v1, v2, v3, v4.resolve_right (by (first | lia | omega))⟩)) fun i' j' v => by
    rcases v with v | ⟨v1, v2, v3, v4⟩
    · exact .inl v
    · exact .inr ⟨v1, v2, v3, (mem_take_succ hp).mpr (.inl v4)⟩
  len := Nat.le_succ_of_le s.len
theorem InS.put {bi' bj' bk' : Nat} {t : Tok} (s : InS ns ms alo blo bhi i k idx kvs bi bj bk) (hp : (places ms k 0)[idx]? = some (jn : Int)) (ha : alo ≤ i) (h3 : ns[i]? = some k) (h : blo ≤ jn) (hb : jn < bhi)
    (hc : if bk < run ns ms alo blo (i + 1) (jn + 1) then bi' = i + 1 - run ns ms alo blo (i + 1) (jn + 1) ∧ bj' = jn + 1 - run ns ms alo blo (i + 1) (jn + 1) ∧ bk' = run ns ms alo blo (i + 1) (jn + 1) else bi' = bi ∧ bj' = bj ∧ bk' = bk) :
    InS ns ms alo blo bhi i k (idx + 1) (stored kvs jn (.int (run ns ms alo blo (i + 1) (jn + 1) : Nat) t)) bi' bj' bk' where
  row := s.row.put (f := fun q => run ns ms alo blo (i + 1) (q + 1)) (n := jn) (by show 0 < run ns ms alo blo (i + 1) (jn + 1); rw [run_step ha h h3 (place_at hp)]; (first | lia | omega)) fun q ⟨hq, v⟩ => by
    rw [mem_take_succ hp] at v
    rcases v with (v | v) | v
    · exact .inl ⟨hq, .inl v⟩
    · exact .inr (by (first | lia | omega))
    · exact .inl ⟨hq, .inr v⟩
  sof := by
    have hv : ∀ i' j', VisI (places ms k 0) alo i blo bhi (idx + 1) i' j' → VisI (places ms k 0) alo i blo bhi idx i' j' ∨ run ns ms alo blo (i' + 1) (j' + 1) = 0 ∨ (i' = i ∧ j' = jn) := fun i' j' v => by
      rcases v with v | ⟨v1, v2, v3, v4⟩
      · exact .inl (.inl v)
      · rw [mem_take_succ hp] at v4
        rcases v4 with v4 | v4
        · exact .inl (.inr ⟨v1, v2, v3, v4⟩)
        · exact .inr (.inr ⟨v1, by (first | lia | omega)⟩)
    have hm : ∀ i' j', VisI (places ms k 0) alo i blo bhi idx i' j' → VisI (places ms k 0) alo i blo bhi (idx + 1) i' j' := fun i' j' v => by
      rcases v with v | ⟨v1, v2, v3, v4⟩
      · exact .inl v
      · exact .inr ⟨v1, v2, v3, (mem_take_succ hp).mpr (.inl v4)⟩
    have ho : ∀ i' j', VisI (places ms k 0) alo i blo bhi idx i' j' → i' < i ∨ (i' = i ∧ j' ≤ jn) := fun i' j' v => by
      rcases v with v | ⟨v1, v2, v3, v4⟩
      · exact .inl v.2.1
      · refine .inr ⟨v1, ?_⟩
        obtain ⟨x, hx1, hx2⟩ := List.getElem_of_mem v4
        have hlt : x < idx := by simp at hx1; (first | lia | omega)
        have hlen : x < (places ms k 0).length := by simp at hx1; (first | lia | omega)
        have hidx : idx < (places ms k 0).length := by
          rcases Nat.lt_or_ge idx (places ms k 0).length with y | y
          · exact y
          · rw [List.getElem?_eq_none y] at hp; cases hp
        have := List.pairwise_iff_getElem.mp (places_sorted (ns := ms) (k := k) (i := 0)) x idx hlen hidx hlt
        rw [List.getElem?_eq_getElem hidx] at hp
        rw [List.getElem_take] at hx2
        rw [hx2, Option.some.inj hp] at this
        (first | lia | omega)
    have hn : VisI (places ms k 0) alo i blo bhi (idx + 1) i jn := .inr ⟨rfl, h, hb, (mem_take_succ hp).mpr (.inr rfl)⟩
    split at hc
    · rename_i c
      obtain ⟨rfl, rfl, rfl⟩ := hc
      exact s.sof.better hv hn c
    · rename_i c
      obtain ⟨rfl, rfl, rfl⟩ := hc
      exact s.sof.same hv hm ho (by (first | lia | omega))
  len := Nat.le_trans (stored_length_le _ _ _) (Nat.succ_le_succ s.len)
theorem InS.all (s : InS ns ms alo blo bhi i k idx kvs bi bj bk) (h3 : ns[i]? = some k) (ha : alo ≤ i) (h : ∀ q : Nat, q < bhi → (q : Int) ∈ places ms k 0 → (q : Int) ∈ (places ms k 0).take idx) :
    Row kvs (fun q => run ns ms alo blo (i + 1) (q + 1)) (· < bhi) ∧ Sofar ns ms alo blo (fun i' j' => alo ≤ i' ∧ i' < i + 1 ∧ blo ≤ j' ∧ j' < bhi) bi bj bk := by
  refine ⟨s.row.skip fun n hn => .inl ⟨hn, ?_⟩, s.sof.more (fun i' j' v => ?_) fun i' j' v => ?_⟩
  · by_cases c : (n : Int) ∈ places ms k 0
    · exact .inl (h n hn c)
    · exact .inr c
  · by_cases c : i' = i
    · subst c
      by_cases c : (j' : Int) ∈ places ms k 0
      · exact .inl (.inr ⟨rfl, v.2.2.1, v.2.2.2, h j' v.2.2.2 c⟩)
      · exact .inr (run_zero fun ⟨_, q⟩ => not_place c (by rw [← q, h3]))
    · exact .inl (.inl ⟨v.1, by (first | lia | omega), v.2.2⟩)
  · rcases v with v | ⟨v1, v2, v3, v4⟩
    · exact ⟨v.1, by (first | lia | omega), v.2.2⟩
    · exact ⟨by (first | lia | omega), by (first | lia | omega), v2, v3⟩
theorem InS.brk (hp : (places ms k 0)[idx]? = some (jn : Int)) (hb : bhi ≤ jn) : ∀ q : Nat, q < bhi → (q : Int) ∈ places ms k 0 → (q : Int) ∈ (places ms k 0).take idx := fun q hq hm => by
  obtain ⟨x, hx1, hx2⟩ := List.getElem_of_mem hm
  have hidx : idx < (places ms k 0).length := by
    rcases Nat.lt_or_ge idx (places ms k 0).length with y | y
    · exact y
    · rw [List.getElem?_eq_none y] at hp; cases hp
  have hj : (places ms k 0)[idx] = jn := by rw [List.getElem?_eq_getElem hidx] at hp; exact Option.some.inj hp
  have : x < idx := by
    rcases Nat.lt_trichotomy x idx with y | y | y
    · exact y
    · subst y; (first | lia | omega)
    · have := List.pairwise_iff_getElem.mp (places_sorted (ns := ms) (k := k) (i := 0)) idx x hidx hx1 y
      (first | lia | omega)
  refine List.mem_iff_getElem.mpr ⟨x, by simp; (first | lia | omega), ?_⟩
  rw [List.getElem_take]; exact hx2
end
end Mine

end
section
open PySem PySem.W PyProof.Rows PySem.Calls
set_option Elab.async false
set_option linter.unusedVariables false
set_option maxRecDepth 100000
set_option maxHeartbeats 4000000
namespace Mine
section
variable {prog : Program} {w : World} {A : Around} {h h' h₀ : Heap} {env : Env} {D : List Addr} {m : Str → Option Value} {l : List (Addr × Obj)}
noncomputable def namesOf : List PySem.Expr → List (Str × Pos)
  | .Name x p :: r => (x, p) :: namesOf r
  | _ => []
theorem t_assignTupN {elts : List PySem.Expr} {names : List Str} {k : Nat} {tpos : Pos} {t : Addr} {o : Obj} {vs : List Value} {Q : Unit → Heap → Prop} (e : EnvOk env) (hh : A.handled = none) (H : S h₀ D env.locals m l h) (ho : h.get? t = some o) (ht : IsTupO o vs) (hlen : names.length = vs.length) (hk : ∀ x ∈ names, env.kindOf x = some .local)
    (q : ∀ h', S h₀ D env.locals (updAll m names vs) l h' → Q () h') (he : (namesOf elts).map (fun x => PySem.Expr.Name x.1 x.2) = elts := by rfl) (hn : (namesOf elts).map (·.1) = names := by rfl) : T prog w A (assign (.Tuple elts k tpos) env (.ref t)) h Q := by
  have := t_assignTup (prog := prog) (w := w) (A := A) (xs := namesOf elts) (k := k) (tpos := tpos) (Q := Q) e hh H ho ht (by rw [← hlen, ← hn]; simp) (fun x hx => hk x.1 (hn ▸ List.mem_map_of_mem hx)) (by rw [hn]; exact q)
  rwa [he] at this
theorem t_AssignTupN {elts : List PySem.Expr} {k : Nat} {tpos pos : Pos} {value : PySem.Expr} {Q : Flow → Heap → Prop}
    (x : T prog w A (eval value env) h fun v h₁ => T prog w A (assign (.Tuple elts k tpos) env v) h₁ fun _ => Q .next)
    (hw : swappedStores [.Tuple elts k tpos] value env = pure none) (hs : swapsWithSole [.Tuple elts k tpos] value pos.line env = pure false := by rfl) :
    T prog w A (exec (.Assign [.Tuple elts k tpos] value pos) env) h Q := fun s es => Assign_Tuple (wpAny_mono (x s es) (by
    rintro v s₁ ⟨h₁, t₁, rfl, y⟩
    exact wpAny_mono (y _ rfl) (by rintro _ s₃ ⟨h₃, t₃, rfl, q⟩; exact ⟨h₃, t₃, rfl, q⟩) fun _ _ z => z) fun _ _ z => z) hs hw
theorem t_WhileNo {test : PySem.Expr} {body : List Stmt} {pos : Pos} {Q : Flow → Heap → Prop} (t : T prog w A (isTrue test env (eval test env)) h fun b h₁ => b = false ∧ Q .next h₁) : T prog w A (exec (.While test body [] pos) env) h Q := by
  refine T.While (fun _ h' => h' = h) (fun n h' e => ?_) 0 rfl
  subst e
  exact t.mono fun b h₁ z => by rw [z.1, if_neg Bool.false_ne_true]; exact z.2
theorem t_is_int_none {i : Int} {t : Tok} {Q : Value → Heap → Prop} (q : Q (.bool false) h) : T prog w A (compareOp .Is (.int i t) .none) h Q := t_is_no (.inl ⟨rfl, by simp⟩) q
noncomputable def Keep (m m₀ : Str → Option Value) (V : List Str) : Prop := ∀ y, y ∉ V → m y = m₀ y
theorem fn_flm (P : Params) : FnOk (frag P) at_SequenceMatcher_find_longest_match fdOf_SequenceMatcher_find_longest_match flmB :=
  ⟨⟨obOf_SequenceMatcher_find_longest_match P, by kernel_rfl!, rfl⟩, by kernel_rfl!, by kernel_rfl!, by kernel_rfl!, by kernel_rfl!, by kernel_rfl!, by kernel_rfl!, by kernel_rfl!, by kernel_rfl!⟩

inductive RowOut (prog : Program) (w : World) (h₀ : Heap) (L : Addr) (m : Str → Option Value) (ns ms : List Int) (alo i blo bhi : Nat) (dnil ub dj I : Addr) (onil o : Obj) (h₃ : Heap) : Prop
  | mk (m' : Str → Option Value) (dn : Addr) (on : Obj) (kvsn : List (Int × Value)) (bi' bj' bk' : Nat) (t1 t2 t3 : Tok) (x1 : Keep m' m [(Str.ofString "i"), (Str.ofString "j2lenget"), (Str.ofString "newj2len"), (Str.ofString "j"), (Str.ofString "k"), (Str.ofString "besti"), (Str.ofString "bestj"), (Str.ofString "bestsize"), (Str.ofString "j2len")]) (x2 : IsDic prog w on kvsn) (x3 : (dn == sysModules) = false) (x4 : Row kvsn (fun q => run ns ms alo blo i (q + 1)) (· < bhi))
    (x5 : Sofar ns ms alo blo (fun i' j' => alo ≤ i' ∧ i' < i ∧ blo ≤ j' ∧ j' < bhi) bi' bj' bk') (x6 : m' (Str.ofString "j2len") = some (.ref dn)) (x7 : m' (Str.ofString "besti") = some (.int (bi' : Nat) t1)) (x8 : m' (Str.ofString "bestj") = some (.int (bj' : Nat) t2)) (x9 : m' (Str.ofString "bestsize") = some (.int (bk' : Nat) t3))
    (x0 : S h₀ [] L m' ([(dn, on), (dnil, onil), (ub, bnd "set.__contains__" (.ref dj))] ++ [(I, o)]) h₃)
inductive RowInv (prog : Program) (w : World) (m₄ : Str → Option Value) (ns ms : List Int) (alo blo bhi i : Nat) (k : Int) (dn ug dj2 : Addr) (tl : List (Addr × Obj)) (idx : Nat) (m₅ : Str → Option Value) (l₅ : List (Addr × Obj)) : Prop
  | mk (on : Obj) (kvsn : List (Int × Value)) (bi bj bk : Nat) (t1 t2 t3 : Tok) (x1 : l₅ = (dn, on) :: ((ug, bnd "dict.get" (.ref dj2)) :: tl)) (x2 : IsDic prog w on kvsn) (x3 : InS ns ms alo blo bhi i k idx kvsn bi bj bk) (x4 : Keep m₅ m₄ [(Str.ofString "j"), (Str.ofString "k"), (Str.ofString "besti"), (Str.ofString "bestj"), (Str.ofString "bestsize")]) (x5 : m₅ (Str.ofString "besti") = some (.int (bi : Nat) t1)) (x6 : m₅ (Str.ofString "bestj") = some (.int (bj : Nat) t2)) (x7 : m₅ (Str.ofString "bestsize") = some (.int (bk : Nat) t3))
theorem flm_row {ns ms : List Int} {vs us : List Value} {ax bx d dj ub dnil dj2 I : Addr} {onil oj2 ob o : Obj} {kvsB kvs2 : List (Int × Value)} {fam : List (Addr × Obj)} {alo ahi blo bhi n bi bj bk : Nat} {tb th ti t1 t2 t3 : Tok} {m₀ : Str → Option Value}
    (e : EnvOk env) (hL : Loc env flmN) (hsc : env.scope = fdOf_SequenceMatcher_find_longest_match.scope) (hh : A.handled = none) (G : Gr (frag w.params) h₀)
    (c1 : m (Str.ofString "a") = some (.ref ax)) (c2 : m (Str.ofString "b2j") = some (.ref d)) (c3 : m (Str.ofString "blo") = some (.int blo tb)) (c4 : m (Str.ofString "bhi") = some (.int bhi th)) (c5 : m (Str.ofString "nothing") = some (.ref dnil))
    (c6 : m (Str.ofString "j2len") = some (.ref dj2)) (c7 : m (Str.ofString "besti") = some (.int bi t1)) (c8 : m (Str.ofString "bestj") = some (.int bj t2)) (c9 : m (Str.ofString "bestsize") = some (.int bk t3))
    (gB : h₀.get? d = some ob) (dB : IsDic prog w ob kvsB) (fB : FamOk ms kvsB fam) (famB : ∀ p ∈ fam, h₀.get? p.1 = some p.2) (loB : (d == sysModules) = false) 
    (hla : h₀.IsList ax vs.toArray) (hia : IntsAre vs ns) (hza : ns.length < 100000) (hzb : ms.length < 100000)
    (hn : alo + n < ns.length) (hbhi : bhi ≤ ms.length)
    (hnil : IsLst onil []) (hd2 : IsDic prog w oj2 kvs2) (lo2 : (dj2 == sysModules) = false)
    (hr : Row kvs2 (fun q => run ns ms alo blo (alo + n) (q + 1)) (· < bhi)) (hs : Sofar ns ms alo blo (fun i' j' => alo ≤ i' ∧ i' < alo + n ∧ blo ≤ j' ∧ j' < bhi) bi bj bk)
    (H : S h₀ [] env.locals (upd m (Str.ofString "i") (.int ((alo : Int) + (n : Nat)) ti)) ([(dj2, oj2), (dnil, onil), (ub, bnd "set.__contains__" (.ref dj))] ++ [(I, o)]) h)
    {Q : Flow → Heap → Prop} (q : ∀ h₃, RowOut prog w h₀ env.locals m ns ms alo (alo + (n + 1)) blo bhi dnil ub dj I onil o h₃ → Q .next h₃) : T prog w A (execs outB env) h Q := by
  have hi : (alo : Int) + (n : Nat) = ((alo + n : Nat) : Int) := by (first | lia | omega)
  rw [hi] at H
  generalize hI : alo + n = i at *
  have ei : alo + (n + 1) = i + 1 := by (first | lia | omega)
  rw [ei] at q
  have low : ∀ {m l h₂ a}, S h₀ [] env.locals m l h₂ → h₂.get? a = none → (a == sysModules) = false := fun H ha => by
    have := (H.gr G).k sysModules (PySem.W.boot_o_1 w.params) (by kernel_rfl!)
    refine beq_eq_false_iff_ne.mpr fun q => ?_
    rw [q, this] at ha; cases ha
  refine T.execs_cons (T.Assign_Name (T.Attribute ?_))
  walk_at "nm"
  have gj2 : h.get? dj2 = some oj2 := H.get (by first | walk_at "mem" | simp)
  refine t_boundGet gj2 hd2.cls.1 hd2.cls.2 (isCls_dic hd2) fun ug h₁ s₁ n₁ g₁ => ?_
  have H₁ := H.add s₁ n₁ g₁
  refine T.storeName e H₁ (fun h₂ H₂ => ?_) (hL.of (by first | walk_at "mem" | simp))
  refine T.execs_cons (T.Assign_Name (t_Dict0 fun dn h₃ on s₃ n₃ g₃ d₃ => ?_))
  have lo := low H₂ n₃
  have H₃ := H₂.add s₃ n₃ g₃
  refine T.storeName e H₃ (fun h₄ H₄ => ?_) (hL.of (by first | walk_at "mem" | simp))
  have hlt : i < ns.length := hn
  obtain ⟨tk, hx⟩ := hia.get i ns[i] (by simp [hlt])
  generalize hk : ns[i] = k at *
  obtain ⟨al, us, hv, hus, hius⟩ : ∃ al us, (valueAt kvsB k).getD (.ref dnil) = .ref al ∧ (∀ {m h₂} {pre post : List (Addr × Obj)}, S h₀ [] env.locals m (pre ++ (dnil, onil) :: post) h₂ → h₂.IsList al (List.toArray us)) ∧ IntsAre us (places ms k 0) := by
    by_cases hkm : k ∈ ms
    · obtain ⟨a, oa, us, f1, f2, f3, f4⟩ := fB.there k hkm
      exact ⟨a, us, by rw [f1]; rfl, fun H => f3.isList (H.old (famB _ f2) (by first | walk_at "mem" | simp)), f4⟩
    · refine ⟨dnil, [], by rw [fB.no k hkm]; rfl, fun H => hnil.isList (H.get (by first | walk_at "mem" | simp)), ?_⟩
      rw [places_not hkm]; exact .nil
  refine T.execs_cons (T.For (T.Call_method ?_))
  walk_at "nm"
  have gb : h₄.get? d = some ob := H₄.old gB (by first | walk_at "mem" | simp)
  refine t_getMethodB gb dB.cls.1 dB.cls.2 PySem.F.plainAttrs_dict PySem.F.slot_dict_get PySem.F.type_dict_get ?_
  refine T.callWith ?_ rfl
  refine t_SubList ?_
  walk_at "nm"
  walk_at "nm"
  refine ⟨ax, vs, i, ti, .int k tk, rfl, rfl, hla.at fun o eo => H₄.old eo (by first | walk_at "mem" | simp), by (first | lia | omega), by (first | lia | omega), by simpa using hx, ?_⟩
  walk_at "nm"
  refine ⟨Keeps.builtin, t_dict_get gb dB loB ?_⟩
  rw [hv]
  have h3 : ns[i]? = some k := by rw [← hk]; simp [hlt]
  have hai : alo ≤ i := by (first | lia | omega)
  generalize hm4 : upd (upd (upd m (Str.ofString "i") (.int (i : Nat) ti)) (Str.ofString "j2lenget") (.ref ug)) (Str.ofString "newj2len") (.ref dn) = m₄ at *
  have c3' : m₄ (Str.ofString "blo") = some (.int blo tb) := by subst hm4; walk_at "look"
  have c4' : m₄ (Str.ofString "bhi") = some (.int bhi th) := by subst hm4; walk_at "look"
  have c5' : m₄ (Str.ofString "i") = some (.int i ti) := by subst hm4; walk_at "look"
  have c6' : m₄ (Str.ofString "j2lenget") = some (.ref ug) := by subst hm4; walk_at "look"
  have c7' : m₄ (Str.ofString "newj2len") = some (.ref dn) := by subst hm4; walk_at "look"
  have k4 : Keep m₄ m [(Str.ofString "i"), (Str.ofString "j2lenget"), (Str.ofString "newj2len")] := by subst hm4; intro y hy; simp at hy; simp [upd, hy]
  have p1 : m₄ (Str.ofString "besti") = some (.int bi t1) := by subst hm4; walk_at "look"
  have p2 : m₄ (Str.ofString "bestj") = some (.int bj t2) := by subst hm4; walk_at "look"
  have p3 : m₄ (Str.ofString "bestsize") = some (.int bk t3) := by subst hm4; walk_at "look"
  clear hm4
  have fin : ∀ {m₅ : Str → Option Value} {on kvsn bi bj bk t1 t2 t3 E h₅}, IsDic prog w on kvsn → Keep m₅ m₄ [(Str.ofString "j"), (Str.ofString "k"), (Str.ofString "besti"), (Str.ofString "bestj"), (Str.ofString "bestsize")] → m₅ (Str.ofString "besti") = some (.int (bi : Nat) t1) → m₅ (Str.ofString "bestj") = some (.int (bj : Nat) t2) → m₅ (Str.ofString "bestsize") = some (.int (bk : Nat) t3) →
      Row kvsn (fun q => run ns ms alo blo (i + 1) (q + 1)) (· < bhi) → Sofar ns ms alo blo (fun i' j' => alo ≤ i' ∧ i' < i + 1 ∧ blo ≤ j' ∧ j' < bhi) bi bj bk →
      S h₀ [] env.locals m₅ ((dn, on) :: ((ug, bnd "dict.get" (.ref dj2)) :: ([(dj2, oj2), (dnil, onil), (ub, bnd "set.__contains__" (.ref dj))] ++ [(I, o)])) ++ E) h₅ →
      T prog w A (execs (match outB with | _ :: _ :: _ :: r => r | _ => []) env) h₅ Q := by
    intro m₅ on kvsn bi bj bk t1 t2 t3 E h₅ hd hkp q1 q2 q3 hrow hsof H₅
    have q4 : m₅ (Str.ofString "newj2len") = some (.ref dn) := (hkp _ (by decide +kernel)).trans c7'
    refine T.execs_cons (T.Assign_Name ?_)
    walk_at "nm"
    refine T.storeName e H₅ (fun h₆ H₆ => ?_) (hL.of (by first | walk_at "mem" | simp))
    refine T.execs_nil (q _ ⟨_, dn, on, kvsn, bi, bj, bk, t1, t2, t3, ?_, hd, lo, hrow, hsof, upd_here, ?_, ?_, ?_, H₆.drop ?_ (by first | walk_at "mem" | simp)⟩)
    · intro y hy
      simp only [List.mem_cons, List.not_mem_nil, or_false, not_or] at hy
      obtain ⟨n1, n2, n3, n4, n5, n6, n7, n8, n9⟩ := hy
      simp only [upd, if_neg n9]
      rw [hkp y (by simp [n4, n5, n6, n7, n8]), k4 y (by simp [n1, n2, n3])]
    · walk_at "look"
    · walk_at "look"
    · walk_at "look"
    · refine List.Sublist.trans ?_ (List.sublist_append_left _ _)
      refine .cons₂ _ (.cons _ (.cons _ (.refl _)))
  refine tf_list (vs := us) e hh (hL.of (by first | walk_at "mem" | simp)) H₄ (RowInv prog w m₄ ns ms alo blo bhi i k dn ug dj2 ([(dj2, oj2), (dnil, onil), (ub, bnd "set.__contains__" (.ref dj))] ++ [(I, o)])) (by first | walk_at "mem" | simp) ?_ ?_ ?_ ?_
  · rintro idx m₅ l₅ h₅ ⟨on, kvsn, bi, bj, bk, t1, t2, t3, rfl, _⟩ H₅
    exact hus (pre := [(dn, on), (ug, bnd "dict.get" (.ref dj2)), (dj2, oj2)]) H₅
  · exact ⟨on, [], bi, bj, bk, t1, t2, t3, rfl, d₃, InS.start h3 hs, fun _ _ => rfl, p1, p2, p3⟩
  · rintro idx v m₅ l₅ J oJ h₅ hvi ⟨on, kvsn, bi, bj, bk, t1, t2, t3, rfl, hd, hin, hkp, q1, q2, q3⟩ H₅
    have hidx : idx < (places ms k 0).length := by
      rw [← hius.length]
      rcases Nat.lt_or_ge idx us.length with y | y
      · exact y
      · rw [List.getElem?_eq_none y] at hvi; cases hvi
    have hp : (places ms k 0)[idx]? = some (places ms k 0)[idx] := by simp [hidx]
    obtain ⟨tj, hx'⟩ := hius.get idx (places ms k 0)[idx] hp
    rw [hvi] at hx'
    cases hx'
    obtain ⟨jn, hjn⟩ := place_nat hp
    rw [hjn] at hp H₅
    have hle : (places ms k 0).length ≤ ms.length := places_le
    refine flm_turn (ns := ns) (ms := ms) (alo := alo) (kvs2 := kvs2) (oj2 := oj2) (dj2 := dj2) e hL hsc hh ((hkp _ (by decide +kernel)).trans c3') ((hkp _ (by decide +kernel)).trans c4') ((hkp _ (by decide +kernel)).trans c5') ((hkp _ (by decide +kernel)).trans c6') ((hkp _ (by decide +kernel)).trans c7') q1 q2 q3 (by first | walk_at "mem" | simp) (by first | walk_at "mem" | simp) hd2 hd lo2 hr (by have := hin.len; (first | lia | omega)) (fun hb => run_step hai hb h3 (place_at hp)) H₅ (fun h₆ z1 z2 => ?_) (fun h₆ z1 z2 => ?_) (fun h₆ on' t' m' bi' bj' bk' s1 s2 s3 z1 z2 z3 z4 z5 z6 z7 z8 z9 => ?_)
    · exact ⟨_, _, ⟨on, kvsn, bi, bj, bk, t1, t2, t3, rfl, hd, hin.skip hp z1, fun y hy => by simp at hy; simp [upd, hy.1]; exact hkp y (by simp [hy]), by walk_at "look", by walk_at "look", by walk_at "look"⟩, z2⟩
    · have fl := hin.all h3 hai (InS.brk hp z1)
      exact fin hd (fun y hy => by simp at hy; simp [upd, hy.1]; exact hkp y (by simp [hy])) (by walk_at "look") (by walk_at "look") (by walk_at "look") fl.1 fl.2 z2
    · refine ⟨m', _, ⟨on', _, bi', bj', bk', s1, s2, s3, rfl, z3, hin.put hp hai h3 z1 z2 z8, fun y hy => ?_, z5, z6, z7⟩, z9⟩
      simp only [List.mem_cons, List.not_mem_nil, or_false, not_or] at hy
      rw [z4 y hy.1 hy.2.1 hy.2.2.1 hy.2.2.2.1 hy.2.2.2.2]
      exact hkp y (by simp [hy])
  · rintro m₅ l₅ h₅ ⟨on, kvsn, bi, bj, bk, t1, t2, t3, rfl, hd, hin, hkp, q1, q2, q3⟩ H₅
    have fl := hin.all h3 hai (fun q _ hm => by rw [hius.length, List.take_length]; exact hm)
    exact fin hd hkp q1 q2 q3 fl.1 fl.2 (E := []) (by rw [List.append_nil]; exact H₅)
end
end Mine

end
section
open PySem PySem.W PyProof.Rows PySem.Calls
set_option Elab.async false
set_option linter.unusedVariables false
set_option maxRecDepth 100000
set_option maxHeartbeats 4000000
namespace Mine
section
variable {prog : Program} {w : World} {A : Around} {h h' h₀ : Heap} {env : Env} {D : List Addr} {m : Str → Option Value} {l : List (Addr × Obj)}
theorem run_lo {a b : List Int} {alo blo j : Nat} : run a b alo blo alo j = 0 := by
  cases alo with
  | zero => cases j <;> rfl
  | succ p =>
    cases j with
    | zero => rfl
    | succ j => rw [run, if_neg (by (first | lia | omega))]
theorem flm_w1 {ns ms : List Int} {vs us : List Value} {ax bx ub dj : Addr} {led : Bool} {alo ahi blo bhi bi bj bk : Nat} {t1 t2 t3 t4 t5 t6 t7 : Tok} (e : EnvOk env) (hL : Loc env flmN) (H : S h₀ D env.locals m l h) (hla : h.IsList ax vs.toArray) (hia : IntsAre vs ns) (hlb : h.IsList bx us.toArray) (hib : IntsAre us ms)
    (gu : h.get? ub = some (bnd "set.__contains__" (.ref dj))) (gd : h.get? dj = some (emptySet led)) (m1 : m (Str.ofString "a") = some (.ref ax)) (m2 : m (Str.ofString "b") = some (.ref bx)) (m3 : m (Str.ofString "isbjunk") = some (.ref ub)) (m4 : m (Str.ofString "alo") = some (.int alo t1)) (m5 : m (Str.ofString "ahi") = some (.int ahi t2)) (m6 : m (Str.ofString "blo") = some (.int blo t3)) (m7 : m (Str.ofString "bhi") = some (.int bhi t4))
    (m8 : m (Str.ofString "besti") = some (.int bi t5)) (m9 : m (Str.ofString "bestj") = some (.int bj t6)) (m10 : m (Str.ofString "bestsize") = some (.int bk t7)) (b2 : ahi ≤ ns.length) (b4 : bhi ≤ ms.length) (hza : ns.length < 100000) (hzb : ms.length < 100000) (hB : Best ns ms alo blo ahi bhi bi bj bk) :
    T prog w A (exec (stN flmB 8) env) h fun f h' => f = .next ∧ h' = h := by
  have iA := hB.inA
  have iB := hB.inB
  refine t_WhileNo (t_isTrue_and (T.isTrue_Compare ?_))
  walk_at "nm"
  walk_at "nm"
  refine T.gt (T.truthy_bool ?_)
  apply ite_cases <;> intro _
  case isFalse => exact ⟨rfl, rfl, rfl⟩
  rename_i z1
  have z1 : (alo : Int) < bi := of_decide_eq_true z1
  refine t_isTrue_and (T.isTrue_Compare ?_)
  walk_at "nm"
  walk_at "nm"
  refine T.gt (T.truthy_bool ?_)
  apply ite_cases <;> intro _
  case isFalse => exact ⟨rfl, rfl, rfl⟩
  rename_i z2
  have z2 : (blo : Int) < bj := of_decide_eq_true z2
  have lb : bj - 1 < ms.length := by (first | lia | omega)
  obtain ⟨tb, hxb⟩ := hib.get (bj - 1) ms[bj - 1] (by simp [lb])
  refine t_isTrue_and (t_isTrue_not (t_isTrue_plain (T.Call_Name ?_)))
  walk_at "nm"
  refine T.callWith ?_ rfl
  refine t_SubList ?_
  walk_at "nm"
  refine T.BinOp ?_
  walk_at "nm"
  refine T.cInt fun u2 => T.sub fun u3 => ?_
  refine ⟨bx, us, _, _, _, rfl, rfl, hlb, by (first | lia | omega), by (first | lia | omega), (by have e1 : ((bj : Int) - 1 : Int).toNat = bj - 1 := (by (first | lia | omega)); rw [e1]; exact hxb), ?_⟩
  refine ⟨Keeps.bound gu rfl rfl, t_callHas gu gd (T.truthy_bool ?_)⟩
  have la : bi - 1 < ns.length := by (first | lia | omega)
  obtain ⟨ta, hxa⟩ := hia.get (bi - 1) ns[bi - 1] (by simp [la])
  refine t_isTrue_and (T.isTrue_Compare (t_SubList ?_))
  walk_at "nm"
  refine T.BinOp ?_
  walk_at "nm"
  refine T.cInt fun u4 => T.sub fun u5 => ?_
  refine ⟨ax, vs, _, _, _, rfl, rfl, hla, by (first | lia | omega), by (first | lia | omega), (by have e1 : ((bi : Int) - 1 : Int).toNat = bi - 1 := (by (first | lia | omega)); rw [e1]; exact hxa), ?_⟩
  refine t_SubList ?_
  walk_at "nm"
  refine T.BinOp ?_
  walk_at "nm"
  refine T.cInt fun u6 => T.sub fun u7 => ?_
  refine ⟨bx, us, _, _, _, rfl, rfl, hlb, by (first | lia | omega), by (first | lia | omega), (by have e1 : ((bj : Int) - 1 : Int).toNat = bj - 1 := (by (first | lia | omega)); rw [e1]; exact hxb), ?_⟩
  have ne : ns[bi - 1] ≠ ms[bj - 1] := fun q => by
    have := hB.max (bi - 1) (bj - 1) (bk + 1) (by (first | lia | omega)) (by (first | lia | omega)) (by (first | lia | omega)) (by (first | lia | omega)) fun t ht => by
      cases t with
      | zero => exact ⟨by (first | lia | omega), by simp [la, lb, q]⟩
      | succ t =>
        have := hB.eq t (by (first | lia | omega))
        have e1 : bi - 1 + (t + 1) = bi + t := by (first | lia | omega)
        have e2 : bj - 1 + (t + 1) = bj + t := by (first | lia | omega)
        rw [e1, e2]; exact this
    (first | lia | omega)
  refine T.eqI (T.truthy_bool ?_)
  rw [if_neg (by simpa using ne)]
  exact ⟨rfl, rfl, rfl⟩
theorem flm_w2 {ns ms : List Int} {vs us : List Value} {ax bx ub dj : Addr} {led : Bool} {alo ahi blo bhi bi bj bk : Nat} {t1 t2 t3 t4 t5 t6 t7 : Tok} (e : EnvOk env) (hL : Loc env flmN) (H : S h₀ D env.locals m l h) (hla : h.IsList ax vs.toArray) (hia : IntsAre vs ns) (hlb : h.IsList bx us.toArray) (hib : IntsAre us ms)
    (gu : h.get? ub = some (bnd "set.__contains__" (.ref dj))) (gd : h.get? dj = some (emptySet led)) (m1 : m (Str.ofString "a") = some (.ref ax)) (m2 : m (Str.ofString "b") = some (.ref bx)) (m3 : m (Str.ofString "isbjunk") = some (.ref ub)) (m4 : m (Str.ofString "alo") = some (.int alo t1)) (m5 : m (Str.ofString "ahi") = some (.int ahi t2)) (m6 : m (Str.ofString "blo") = some (.int blo t3)) (m7 : m (Str.ofString "bhi") = some (.int bhi t4))
    (m8 : m (Str.ofString "besti") = some (.int bi t5)) (m9 : m (Str.ofString "bestj") = some (.int bj t6)) (m10 : m (Str.ofString "bestsize") = some (.int bk t7)) (b2 : ahi ≤ ns.length) (b4 : bhi ≤ ms.length) (hza : ns.length < 100000) (hzb : ms.length < 100000) (hB : Best ns ms alo blo ahi bhi bi bj bk) :
    T prog w A (exec (stN flmB 9) env) h fun f h' => f = .next ∧ h' = h := by
  have iA := hB.inA
  have iB := hB.inB
  refine t_WhileNo (t_isTrue_and (T.isTrue_Compare (T.BinOp ?_)))
  walk_at "nm"
  walk_at "nm"
  refine T.add fun w1 => ?_
  walk_at "nm"
  refine T.lt (T.truthy_bool ?_)
  apply ite_cases <;> intro _
  case isFalse => exact ⟨rfl, rfl, rfl⟩
  rename_i z1
  have z1 : (bi : Int) + bk < ahi := of_decide_eq_true z1
  refine t_isTrue_and (T.isTrue_Compare (T.BinOp ?_))
  walk_at "nm"
  walk_at "nm"
  refine T.add fun w2 => ?_
  walk_at "nm"
  refine T.lt (T.truthy_bool ?_)
  apply ite_cases <;> intro _
  case isFalse => exact ⟨rfl, rfl, rfl⟩
  rename_i z2
  have z2 : (bj : Int) + bk < bhi := of_decide_eq_true z2
  have lb : bj + bk < ms.length := by (first | lia | omega)
  obtain ⟨tb, hxb⟩ := hib.get (bj + bk) ms[bj + bk] (by simp [lb])
  refine t_isTrue_and (t_isTrue_not (t_isTrue_plain (T.Call_Name ?_)))
  walk_at "nm"
  refine T.callWith ?_ rfl
  refine t_SubList ?_
  walk_at "nm"
  refine T.BinOp ?_
  walk_at "nm"
  walk_at "nm"
  refine T.add fun u3 => ?_
  refine ⟨bx, us, _, _, _, rfl, rfl, hlb, by (first | lia | omega), by (first | lia | omega), (by have e1 : ((bj : Int) + (bk : Nat) : Int).toNat = bj + bk := (by (first | lia | omega)); rw [e1]; exact hxb), ?_⟩
  refine ⟨Keeps.bound gu rfl rfl, t_callHas gu gd (T.truthy_bool ?_)⟩
  have la : bi + bk < ns.length := by (first | lia | omega)
  obtain ⟨ta, hxa⟩ := hia.get (bi + bk) ns[bi + bk] (by simp [la])
  refine t_isTrue_and (T.isTrue_Compare (t_SubList ?_))
  walk_at "nm"
  refine T.BinOp ?_
  walk_at "nm"
  walk_at "nm"
  refine T.add fun u5 => ?_
  refine ⟨ax, vs, _, _, _, rfl, rfl, hla, by (first | lia | omega), by (first | lia | omega), (by have e1 : ((bi : Int) + (bk : Nat) : Int).toNat = bi + bk := (by (first | lia | omega)); rw [e1]; exact hxa), ?_⟩
  refine t_SubList ?_
  walk_at "nm"
  refine T.BinOp ?_
  walk_at "nm"
  walk_at "nm"
  refine T.add fun u7 => ?_
  refine ⟨bx, us, _, _, _, rfl, rfl, hlb, by (first | lia | omega), by (first | lia | omega), (by have e1 : ((bj : Int) + (bk : Nat) : Int).toNat = bj + bk := (by (first | lia | omega)); rw [e1]; exact hxb), ?_⟩
  have ne : ns[bi + bk] ≠ ms[bj + bk] := fun q => by
    have := hB.max bi bj (bk + 1) (by (first | lia | omega)) (by (first | lia | omega)) (by (first | lia | omega)) (by (first | lia | omega)) fun t ht => by
      by_cases c : t = bk
      · subst c; exact ⟨by (first | lia | omega), by simp [la, lb, q]⟩
      · exact hB.eq t (by (first | lia | omega))
    (first | lia | omega)
  refine T.eqI (T.truthy_bool ?_)
  rw [if_neg (by simpa using ne)]
  exact ⟨rfl, rfl, rfl⟩
theorem flm_w3 {ns ms : List Int} {vs us : List Value} {ax bx ub dj : Addr} {led : Bool} {alo ahi blo bhi bi bj bk : Nat} {t1 t2 t3 t4 t5 t6 t7 : Tok} (e : EnvOk env) (hL : Loc env flmN) (H : S h₀ D env.locals m l h) (hla : h.IsList ax vs.toArray) (hia : IntsAre vs ns) (hlb : h.IsList bx us.toArray) (hib : IntsAre us ms)
    (gu : h.get? ub = some (bnd "set.__contains__" (.ref dj))) (gd : h.get? dj = some (emptySet led)) (m1 : m (Str.ofString "a") = some (.ref ax)) (m2 : m (Str.ofString "b") = some (.ref bx)) (m3 : m (Str.ofString "isbjunk") = some (.ref ub)) (m4 : m (Str.ofString "alo") = some (.int alo t1)) (m5 : m (Str.ofString "ahi") = some (.int ahi t2)) (m6 : m (Str.ofString "blo") = some (.int blo t3)) (m7 : m (Str.ofString "bhi") = some (.int bhi t4))
    (m8 : m (Str.ofString "besti") = some (.int bi t5)) (m9 : m (Str.ofString "bestj") = some (.int bj t6)) (m10 : m (Str.ofString "bestsize") = some (.int bk t7)) (b2 : ahi ≤ ns.length) (b4 : bhi ≤ ms.length) (hza : ns.length < 100000) (hzb : ms.length < 100000) (hB : Best ns ms alo blo ahi bhi bi bj bk) :
    T prog w A (exec (stN flmB 10) env) h fun f h' => f = .next ∧ h' = h := by
  have iA := hB.inA
  have iB := hB.inB
  refine t_WhileNo (t_isTrue_and (T.isTrue_Compare ?_))
  walk_at "nm"
  walk_at "nm"
  refine T.gt (T.truthy_bool ?_)
  apply ite_cases <;> intro _
  case isFalse => exact ⟨rfl, rfl, rfl⟩
  rename_i z1
  have z1 : (alo : Int) < bi := of_decide_eq_true z1
  refine t_isTrue_and (T.isTrue_Compare ?_)
  walk_at "nm"
  walk_at "nm"
  refine T.gt (T.truthy_bool ?_)
  apply ite_cases <;> intro _
  case isFalse => exact ⟨rfl, rfl, rfl⟩
  rename_i z2
  have z2 : (blo : Int) < bj := of_decide_eq_true z2
  have lb : bj - 1 < ms.length := by (first | lia | omega)
  obtain ⟨tb, hxb⟩ := hib.get (bj - 1) ms[bj - 1] (by simp [lb])
  refine t_isTrue_and (t_isTrue_plain (T.Call_Name ?_))
  walk_at "nm"
  refine T.callWith ?_ rfl
  refine t_SubList ?_
  walk_at "nm"
  refine T.BinOp ?_
  walk_at "nm"
  refine T.cInt fun u2 => T.sub fun u3 => ?_
  refine ⟨bx, us, _, _, _, rfl, rfl, hlb, by (first | lia | omega), by (first | lia | omega), (by have e1 : ((bj : Int) - 1 : Int).toNat = bj - 1 := (by (first | lia | omega)); rw [e1]; exact hxb), ?_⟩
  refine ⟨Keeps.bound gu rfl rfl, t_callHas gu gd (T.truthy_bool ?_)⟩
  rw [if_neg Bool.false_ne_true]
  exact ⟨rfl, rfl, rfl⟩
theorem flm_w4 {ns ms : List Int} {vs us : List Value} {ax bx ub dj : Addr} {led : Bool} {alo ahi blo bhi bi bj bk : Nat} {t1 t2 t3 t4 t5 t6 t7 : Tok} (e : EnvOk env) (hL : Loc env flmN) (H : S h₀ D env.locals m l h) (hla : h.IsList ax vs.toArray) (hia : IntsAre vs ns) (hlb : h.IsList bx us.toArray) (hib : IntsAre us ms)
    (gu : h.get? ub = some (bnd "set.__contains__" (.ref dj))) (gd : h.get? dj = some (emptySet led)) (m1 : m (Str.ofString "a") = some (.ref ax)) (m2 : m (Str.ofString "b") = some (.ref bx)) (m3 : m (Str.ofString "isbjunk") = some (.ref ub)) (m4 : m (Str.ofString "alo") = some (.int alo t1)) (m5 : m (Str.ofString "ahi") = some (.int ahi t2)) (m6 : m (Str.ofString "blo") = some (.int blo t3)) (m7 : m (Str.ofString "bhi") = some (.int bhi t4))
    (m8 : m (Str.ofString "besti") = some (.int bi t5)) (m9 : m (Str.ofString "bestj") = some (.int bj t6)) (m10 : m (Str.ofString "bestsize") = some (.int bk t7)) (b2 : ahi ≤ ns.length) (b4 : bhi ≤ ms.length) (hza : ns.length < 100000) (hzb : ms.length < 100000) (hB : Best ns ms alo blo ahi bhi bi bj bk) :
    T prog w A (exec (stN flmB 11) env) h fun f h' => f = .next ∧ h' = h := by
  have iA := hB.inA
  have iB := hB.inB
  refine t_WhileNo (t_isTrue_and (T.isTrue_Compare (T.BinOp ?_)))
  walk_at "nm"
  walk_at "nm"
  refine T.add fun w1 => ?_
  walk_at "nm"
  refine T.lt (T.truthy_bool ?_)
  apply ite_cases <;> intro _
  case isFalse => exact ⟨rfl, rfl, rfl⟩
  rename_i z1
  have z1 : (bi : Int) + bk < ahi := of_decide_eq_true z1
  refine t_isTrue_and (T.isTrue_Compare (T.BinOp ?_))
  walk_at "nm"
  walk_at "nm"
  refine T.add fun w2 => ?_
  walk_at "nm"
  refine T.lt (T.truthy_bool ?_)
  apply ite_cases <;> intro _
  case isFalse => exact ⟨rfl, rfl, rfl⟩
  rename_i z2
  have z2 : (bj : Int) + bk < bhi := of_decide_eq_true z2
  have lb : bj + bk < ms.length := by (first | lia | omega)
  obtain ⟨tb, hxb⟩ := hib.get (bj + bk) ms[bj + bk] (by simp [lb])
  refine t_isTrue_and (t_isTrue_plain (T.Call_Name ?_))
  walk_at "nm"
  refine T.callWith ?_ rfl
  refine t_SubList ?_
  walk_at "nm"
  refine T.BinOp ?_
  walk_at "nm"
  walk_at "nm"
  refine T.add fun u3 => ?_
  refine ⟨bx, us, _, _, _, rfl, rfl, hlb, by (first | lia | omega), by (first | lia | omega), (by have e1 : ((bj : Int) + (bk : Nat) : Int).toNat = bj + bk := (by (first | lia | omega)); rw [e1]; exact hxb), ?_⟩
  refine ⟨Keeps.bound gu rfl rfl, t_callHas gu gd (T.truthy_bool ?_)⟩
  rw [if_neg Bool.false_ne_true]
  exact ⟨rfl, rfl, rfl⟩
inductive FlmInv (prog : Program) (w : World) (m₉ : Str → Option Value) (ns ms : List Int) (alo blo bhi : Nat) (dnil ub dj : Addr) (onil : Obj) (n : Nat) (m₅ : Str → Option Value) (l₅ : List (Addr × Obj)) : Prop
  | mk (dj2 : Addr) (oj2 : Obj) (kvs : List (Int × Value)) (bi bj bk : Nat) (s1 s2 s3 : Tok) (x1 : l₅ = [(dj2, oj2), (dnil, onil), (ub, bnd "set.__contains__" (.ref dj))]) (x2 : IsDic prog w oj2 kvs) (x3 : (dj2 == sysModules) = false)
      (x4 : Row kvs (fun q => run ns ms alo blo (alo + n) (q + 1)) (· < bhi)) (x5 : Sofar ns ms alo blo (fun i' j' => alo ≤ i' ∧ i' < alo + n ∧ blo ≤ j' ∧ j' < bhi) bi bj bk) (x6 : Keep m₅ m₉ [(Str.ofString "i"), (Str.ofString "j2lenget"), (Str.ofString "newj2len"), (Str.ofString "j"), (Str.ofString "k"), (Str.ofString "besti"), (Str.ofString "bestj"), (Str.ofString "bestsize"), (Str.ofString "j2len")])
      (x7 : m₅ (Str.ofString "j2len") = some (.ref dj2)) (x8 : m₅ (Str.ofString "besti") = some (.int (bi : Nat) s1)) (x9 : m₅ (Str.ofString "bestj") = some (.int (bj : Nat) s2)) (x0 : m₅ (Str.ofString "bestsize") = some (.int (bk : Nat) s3))
theorem find_longest {x dx ax bx d dj : Addr} {od : Obj} {am : Str → Option Value} {vs us : List Value} {ns ms : List Int} {alo ahi blo bhi : Nat} {led : Bool} {t1 t2 t3 t4 : Tok} {Q : Value → Heap → Prop} (G : Gr (frag w.params) h) (hh : A.handled = none) (hroom : A.depth + 8 < recursionLimit)
    (ho : h.get? x = some (instObj aSM dx)) (hdx : h.get? dx = some od) (ia : IsAttrs attrN od am) (ha : am (Str.ofString "a") = some (.ref ax)) (hb : am (Str.ofString "b") = some (.ref bx)) (hbj : am (Str.ofString "b2j") = some (.ref d)) (hju : am (Str.ofString "bjunk") = some (.ref dj))
    (B : B2J prog w h d ms) (hj : h.get? dj = some (emptySet led)) (hla : h.IsList ax vs.toArray) (hia : IntsAre vs ns) (hlb : h.IsList bx us.toArray) (hib : IntsAre us ms) (b1 : alo ≤ ahi) (b2 : ahi ≤ ns.length) (b3 : blo ≤ bhi) (b4 : bhi ≤ ms.length) (hza : ns.length < 100000) (hzb : ms.length < 100000)
    (q : ∀ (h' : Heap) y da (i j k : Nat) t1 t2 t3, Sub [] h h' → h.get? y = none → h'.get? y = some (matchObj da [.int i t1, .int j t2, .int k t3]) → Best ns ms alo blo ahi bhi i j k → Q (.ref y) h') :
    TC prog w A (.call (.ref at_SequenceMatcher_find_longest_match) ⟨[.ref x, .int alo t1, .int ahi t2, .int blo t3, .int bhi t4], []⟩) h Q := by
  refine TC.defB (binds := [((Str.ofString "self"), .ref x), ((Str.ofString "alo"), .int alo t1), ((Str.ofString "ahi"), .int ahi t2), ((Str.ofString "blo"), .int blo t3), ((Str.ofString "bhi"), .int bhi t4)]) [] (fn_flm w.params) G (by (first | lia | omega)) (bindsK (T := 189) (o := o189 w.params) G.k rfl (by kernel_rfl!) rfl rfl rfl) (by kernel_rfl!) (by first | walk_at "mem" | simp) (by first | walk_at "mem" | simp) fun h₁ L H => ?_
  have e := (fn_flm w.params).ok L
  have hL : Loc (callEnv fdOf_SequenceMatcher_find_longest_match L at_SequenceMatcher_find_longest_match) flmN := Loc.mk' (by kernel_rfl!)
  have kg : ∀ y ∈ [(Str.ofString "len"), (Str.ofString "range"), (Str.ofString "Match")], (callEnv fdOf_SequenceMatcher_find_longest_match L at_SequenceMatcher_find_longest_match).kindOf y = some .globalImplicit := by
    have : ([(Str.ofString "len"), (Str.ofString "range"), (Str.ofString "Match")].all fun y => decide ((callEnv fdOf_SequenceMatcher_find_longest_match L at_SequenceMatcher_find_longest_match).kindOf y = some .globalImplicit)) = true := by kernel_rfl!
    exact fun y hy => of_decide_eq_true (List.all_eq_true.mp this y hy)
  have hsc : (callEnv fdOf_SequenceMatcher_find_longest_match L at_SequenceMatcher_find_longest_match).scope = fdOf_SequenceMatcher_find_longest_match.scope := rfl
  replace H : S h [] L (upd (upd (upd (upd (upd (fun _ => none) (Str.ofString "self") (.ref x)) (Str.ofString "alo") (.int alo t1)) (Str.ofString "ahi") (.int ahi t2)) (Str.ofString "blo") (.int blo t3)) (Str.ofString "bhi") (.int bhi t4)) [] h₁ := H
  generalize henv : callEnv fdOf_SequenceMatcher_find_longest_match L at_SequenceMatcher_find_longest_match = env at *
  have hLo : L = env.locals := by rw [← henv]; rfl
  subst hLo
  clear henv
  have hh' : (A.deeper env).handled = none := hh
  have hd' : (A.deeper env).depth + 7 < recursionLimit := by show A.depth + 1 + 7 < _; (first | lia | omega)
  generalize A.deeper env = A' at *
  have GG : ∀ {m l h₂}, S h [] env.locals m l h₂ → Gr (frag w.params) h₂ := fun H => H.gr G
  have P := plainSM w.params
  have I₁ : ∀ {m l h₂}, S h [] env.locals m l h₂ → Inst h₂ x aSM dx od := fun H => ⟨H.old ho (by first | walk_at "mem" | simp), H.old hdx (by first | walk_at "mem" | simp)⟩
  have hLa : ∀ {m l h₂}, S h [] env.locals m l h₂ → h₂.IsList ax vs.toArray := fun H => hla.at fun o eo => H.old eo (by first | walk_at "mem" | simp)
  have hLb : ∀ {m l h₂}, S h [] env.locals m l h₂ → h₂.IsList bx us.toArray := fun H => hlb.at fun o eo => H.old eo (by first | walk_at "mem" | simp)
  obtain ⟨⟨ob, kvsB, fam, gB, dB, fB, famB⟩, loB⟩ := B
  refine T.execs_cons (T.Expr (T.cStr fun t => ⟨(fun b q => by cases q), ?_⟩) e.inter)
  refine T.execs_cons (t_AssignTupN (t_Tuple (T.Attribute ?_) rfl) (sw_of hsc (by kernel_rfl!)))
  walk_at "nm"
  refine T.getAttr P (GG H).k (I₁ H) ia ha (attrFind _ (by delta attrN; walk_at "mem")) rfl ?_
  refine T.Attribute ?_
  walk_at "nm"
  refine T.getAttr P (GG H).k (I₁ H) ia hb (attrFind _ (by delta attrN; walk_at "mem")) rfl ?_
  refine T.Attribute ?_
  walk_at "nm"
  refine T.getAttr P (GG H).k (I₁ H) ia hbj (attrFind _ (by delta attrN; walk_at "mem")) rfl ?_
  refine T.Attribute (T.Attribute ?_)
  walk_at "nm"
  refine T.getAttr P (GG H).k (I₁ H) ia hju (attrFind _ (by delta attrN; walk_at "mem")) rfl ?_
  refine t_boundHas (H.old hj (by first | walk_at "mem" | simp)) rfl rfl rfl fun ub h₂ s₂ n₂ g₂ => ?_
  have H₂ := H.add s₂ n₂ g₂
  refine ⟨by show 4 ≤ sizeLine; decide, fun tt h₃ o₃ s₃ n₃ g₃ l₃ => ?_⟩
  have H₃ := H₂.sub s₃
  refine t_assignTupN (names := [(Str.ofString "a"), (Str.ofString "b"), (Str.ofString "b2j"), (Str.ofString "isbjunk")]) e hh' H₃ g₃ l₃ rfl (hL.subs (by decide +kernel)) fun h₄ H₄ => ?_
  simp only [updAll] at H₄
  refine T.execs_cons (T.If (T.isTrue_Compare ?_))
  walk_at "nm"
  refine T.cNone (t_is_int_none (T.truthy_bool (T.execs_nil ?_)))
  refine T.execs_cons (T.If (T.isTrue_Compare ?_))
  walk_at "nm"
  refine T.cNone (t_is_int_none (T.truthy_bool (T.execs_nil ?_)))
  refine T.execs_cons ?_
  refine t_AssignSwap (h₀ := h) (D := []) (names := [(Str.ofString "besti"), (Str.ofString "bestj"), (Str.ofString "bestsize")]) e hh' ?_ (hL.subs (by decide +kernel)) (sw_of hsc (by kernel_rfl!)) rfl
  walk_at "nm"
  walk_at "nm"
  refine T.cInt fun u1 => ?_
  refine ⟨by show 3 ≤ sizeLine; decide, rfl, _, _, H₄, fun h₅ H₅ => ?_⟩
  simp only [updAll, List.reverse_cons, List.reverse_nil, List.nil_append, List.cons_append] at H₅
  refine T.execs_cons (T.Assign_Name (t_Dict0 fun dj2 h₆ oj2 s₆ n₆ g₆ d₆ => ?_))
  have lo : (dj2 == sysModules) = false := by
    have := (GG H₅).k sysModules (PySem.W.boot_o_1 w.params) (by kernel_rfl!)
    refine beq_eq_false_iff_ne.mpr fun q => ?_
    rw [q, this] at n₆; cases n₆
  have H₆ := H₅.add s₆ n₆ g₆
  refine T.storeName e H₆ (fun h₇ H₇ => ?_) (hL.of (by first | walk_at "mem" | simp))
  refine T.execs_cons (T.Assign_Name (t_List ?_ rfl))
  refine ⟨by decide, fun dnil h₈ onil s₈ n₈ g₈ l₈ => ?_⟩
  have H₈ := H₇.add s₈ n₈ g₈
  refine T.storeName e H₈ (fun h₉ H₉ => ?_) (hL.of (by first | walk_at "mem" | simp))
  have H₉' := H₉.perm (l' := [(dj2, oj2), (dnil, onil), (ub, bnd "set.__contains__" (.ref dj))]) (List.Perm.swap _ _ _)
  generalize hm9 : upd (upd (upd (upd (upd (upd (upd (upd (upd (upd (upd (upd (upd (upd (fun _ => none) (Str.ofString "self") (.ref x)) (Str.ofString "alo") (.int alo t1)) (Str.ofString "ahi") (.int ahi t2)) (Str.ofString "blo") (.int blo t3)) (Str.ofString "bhi") (.int bhi t4)) (Str.ofString "a") (.ref ax)) (Str.ofString "b") (.ref bx)) (Str.ofString "b2j") (.ref d)) (Str.ofString "isbjunk") (.ref ub)) (Str.ofString "bestsize") (.int 0 u1)) (Str.ofString "bestj") (.int blo t3)) (Str.ofString "besti") (.int alo t1)) (Str.ofString "j2len") (.ref dj2)) (Str.ofString "nothing") (.ref dnil) = m₉ at *
  have c1 : m₉ (Str.ofString "a") = some (.ref ax) := by subst hm9; walk_at "look"
  have c2 : m₉ (Str.ofString "b") = some (.ref bx) := by subst hm9; walk_at "look"
  have c3 : m₉ (Str.ofString "b2j") = some (.ref d) := by subst hm9; walk_at "look"
  have c4 : m₉ (Str.ofString "isbjunk") = some (.ref ub) := by subst hm9; walk_at "look"
  have c5 : m₉ (Str.ofString "alo") = some (.int alo t1) := by subst hm9; walk_at "look"
  have c6 : m₉ (Str.ofString "ahi") = some (.int ahi t2) := by subst hm9; walk_at "look"
  have c7 : m₉ (Str.ofString "blo") = some (.int blo t3) := by subst hm9; walk_at "look"
  have c8 : m₉ (Str.ofString "bhi") = some (.int bhi t4) := by subst hm9; walk_at "look"
  have c9 : m₉ (Str.ofString "nothing") = some (.ref dnil) := by subst hm9; walk_at "look"
  have p0 : m₉ (Str.ofString "j2len") = some (.ref dj2) := by subst hm9; walk_at "look"
  have p1 : m₉ (Str.ofString "besti") = some (.int alo t1) := by subst hm9; walk_at "look"
  have p2 : m₉ (Str.ofString "bestj") = some (.int blo t3) := by subst hm9; walk_at "look"
  have p3 : m₉ (Str.ofString "bestsize") = some (.int 0 u1) := by subst hm9; walk_at "look"
  clear hm9
  refine T.execs_cons (T.For (T.Call_Name ?_))
  refine T.builtin (v := .type "range") e (GG H₉') (by kernel_rfl!) (by kernel_rfl!) ?_ (kg _ (by first | walk_at "mem" | simp)) (by decide +kernel) (by decide +kernel)
  refine T.callWith ?_ rfl
  walk_at "nm"
  walk_at "nm"
  refine ⟨Keeps.type, ?_⟩
  refine tf_range e hh' (hL.of (by first | walk_at "mem" | simp)) H₉' (by (first | lia | omega)) (by (first | lia | omega)) (by (first | lia | omega)) (FlmInv prog w m₉ ns ms alo blo bhi dnil ub dj onil) (by first | walk_at "mem" | simp) ?_ ?_ ?_
  · exact ⟨dj2, oj2, [], alo, blo, 0, t1, t3, u1, rfl, d₆, lo, Row.nil (fun n _ => run_lo), Sofar.start (fun i j c => by (first | lia | omega)), fun _ _ => rfl, p0, p1, p2, p3⟩
  · rintro n ti m₅ l₅ I o h₅ hlt ⟨dj2, oj2, kvs, bi, bj, bk, s1, s2, s3, rfl, hd, hlo, hrow, hsof, hkp, q0, q1, q2, q3⟩ H₅
    refine flm_row (vs := vs) (ob := ob) (d := d) (bx := bx) (us := us) (ax := ax) (ahi := ahi) (m₀ := m₅) e hL hsc hh' G ((hkp _ (by decide +kernel)).trans c1) ((hkp _ (by decide +kernel)).trans c3) ((hkp _ (by decide +kernel)).trans c7) ((hkp _ (by decide +kernel)).trans c8) ((hkp _ (by decide +kernel)).trans c9) q0 q1 q2 q3 gB dB fB famB loB hla hia hza hzb (by (first | lia | omega)) b4 l₈ hd hlo hrow hsof H₅ fun h₆ z => ?_
    obtain ⟨m', dn, on, kvsn, bi', bj', bk', s1, s2, s3, z1, z2, z3, z4, z5, z6, z7, z8, z9, z10⟩ := z
    exact ⟨m', _, ⟨dn, on, kvsn, bi', bj', bk', s1, s2, s3, rfl, z2, z3, z4, z5, fun y hy => (z1 y hy).trans (hkp y hy), z6, z7, z8, z9⟩, z10⟩
  · rintro n m₅ l₅ h₅ hn ⟨dj2, oj2, kvs, bi, bj, bk, s1, s2, s3, rfl, hd, hlo, hrow, hsof, hkp, q0, q1, q2, q3⟩ H₅
    have en : alo + n = ahi := by (first | lia | omega)
    rw [en] at hsof
    have hB := hsof.best b1 b3
    replace c1 := (hkp _ (by decide +kernel)).trans c1
    replace c2 := (hkp _ (by decide +kernel)).trans c2
    replace c4 := (hkp _ (by decide +kernel)).trans c4
    replace c5 := (hkp _ (by decide +kernel)).trans c5
    replace c6 := (hkp _ (by decide +kernel)).trans c6
    replace c7 := (hkp _ (by decide +kernel)).trans c7
    replace c8 := (hkp _ (by decide +kernel)).trans c8
    have gu : h₅.get? ub = some (bnd "set.__contains__" (.ref dj)) := H₅.get (by first | walk_at "mem" | simp)
    have gd := H₅.old hj (by first | walk_at "mem" | simp)
    refine T.execs_cons ((flm_w1 e hL H₅ (hLa H₅) hia (hLb H₅) hib gu gd c1 c2 c4 c5 c6 c7 c8 q1 q2 q3 b2 b4 hza hzb hB).mono ?_)
    rintro f h₆ ⟨rfl, rfl⟩
    refine T.execs_cons ((flm_w2 e hL H₅ (hLa H₅) hia (hLb H₅) hib gu gd c1 c2 c4 c5 c6 c7 c8 q1 q2 q3 b2 b4 hza hzb hB).mono ?_)
    rintro f h₆ ⟨rfl, rfl⟩
    refine T.execs_cons ((flm_w3 e hL H₅ (hLa H₅) hia (hLb H₅) hib gu gd c1 c2 c4 c5 c6 c7 c8 q1 q2 q3 b2 b4 hza hzb hB).mono ?_)
    rintro f h₆ ⟨rfl, rfl⟩
    refine T.execs_cons ((flm_w4 e hL H₅ (hLa H₅) hia (hLb H₅) hib gu gd c1 c2 c4 c5 c6 c7 c8 q1 q2 q3 b2 b4 hza hzb hB).mono ?_)
    rintro f h₆ ⟨rfl, rfl⟩
    refine T.execs_cons (T.Return (T.Call_Name ?_))
    refine T.global (v := .ref aMt) e (GG H₅) (by kernel_rfl!) ?_ (kg _ (by first | walk_at "mem" | simp)) (by decide +kernel)
    refine T.callWith ?_ rfl
    walk_at "nm"
    walk_at "nm"
    walk_at "nm"
    refine ⟨Keeps.frag (GG H₅).k (by kernel_rfl!), make_match (GG H₅) (by (first | lia | omega)) fun h₇ y da s₇ n₇ g₇ => ?_⟩
    refine q h₇ y da bi bj bk s1 s2 s3 (H₅.base.trans s₇) ?_ g₇ hB
    exact (H₅.fresh n₇).1
end
end Mine

end
section
open PySem PySem.W PyProof.Rows PySem.Calls
set_option Elab.async false
set_option linter.unusedVariables false
set_option maxRecDepth 100000
set_option maxHeartbeats 4000000
namespace Mine
section
variable {prog : Program} {w : World} {A : Around} {h h' h₀ : Heap} {env : Env} {D : List Addr} {m : Str → Option Value} {l : List (Addr × Obj)}
theorem t_unpackTo {v : Value} {vs : List Value} {elts : List PySem.Expr} {names : List Str} {k : Nat} {tpos : Pos} {Q : Unit → Heap → Prop} (e : EnvOk env) (H : S h₀ D env.locals m l h) (hu : ∀ {Q' : List Value → Heap → Prop}, (∀ h', Sub [] h h' → Q' vs h') → T prog w A (unpackItems v names.length none) h Q') (hlen : names.length = vs.length) (hk : ∀ x ∈ names, env.kindOf x = some .local)
    (q : ∀ h', S h₀ D env.locals (updAll m names vs) l h' → Q () h') (he : (namesOf elts).map (fun x => PySem.Expr.Name x.1 x.2) = elts := by rfl) (hn : (namesOf elts).map (·.1) = names := by rfl) : T prog w A (assign (.Tuple elts k tpos) env v) h Q := by
  rw [← he, PyProof.Rows.assign_Tuple]
  refine T.bind (T.standAt ?_)
  unfold unpack
  rw [each_len, each_star]
  have el : (namesOf elts).length = names.length := by rw [← hn]; simp
  rw [el]
  refine T.bind (T.holding (hu fun h₁ s₁ => ?_))
  exact t_assignNames (px := tpos) e (H.sub s₁) (by rw [el, hlen]) (fun x hx => hk x.1 (hn ▸ List.mem_map_of_mem hx)) (by rw [hn]; exact q)
theorem t_assignMtN {elts : List PySem.Expr} {names : List Str} {k : Nat} {tpos : Pos} {x da : Addr} {vs : List Value} {Q : Unit → Heap → Prop} (e : EnvOk env) (hh : A.handled = none) (H : S h₀ D env.locals m l h) (X : (frag w.params).In h) (hx : h.get? x = some (matchObj da vs)) (hlen : names.length = vs.length) (hk : ∀ x ∈ names, env.kindOf x = some .local)
    (q : ∀ h', S h₀ D env.locals (updAll m names vs) l h' → Q () h') (he : (namesOf elts).map (fun x => PySem.Expr.Name x.1 x.2) = elts := by rfl) (hn : (namesOf elts).map (·.1) = names := by rfl) : T prog w A (assign (.Tuple elts k tpos) env (.ref x)) h Q :=
  t_unpackTo e H (fun q' => t_unpackM hh X hx hlen q') hlen hk q he hn
theorem t_truthyList {a : Addr} {o : Obj} {vs : List Value} {Q : Bool → Heap → Prop} (ho : h.get? a = some o) (hl : IsLst o vs) (hz : vs.length < 2 ^ 62) (q : Q (!vs.isEmpty) h) : T prog w A (truthy (.ref a)) h Q := fun s es => by
  subst es
  refine wpAny_truthy_list (hl.isList ho) (by simp only [List.size_toArray]; (first | lia | omega)) ⟨_, _, rfl, ?_⟩
  simpa using q
theorem t_pop {a : Addr} {o : Obj} {vs : List Value} {v : Value} {Q : Value → Heap → Prop} (ho : h.get? a = some o) (hl : IsLst o (vs ++ [v])) (hz : vs.length + 1 ≤ sizeLine)
    (q : ∀ h' o', Sub [a] h h' → h'.get? a = some o' → IsLst o' vs → Q v h') : T prog w A (PySem.call (.builtin "list.pop") [.ref a]) h Q := fun s es => by
  subst es
  obtain ⟨n, rfl⟩ := hl
  have e1 : (vs ++ [v]).toArray.size - 1 = vs.length := by simp
  refine call_meets PySem.F.slot_list_pop ⟨_, ho, rfl⟩ PySem.F.entry_list_pop (PySem.F.args_list_pop_1 _) (MeetsSeq.list_pop_last a (vs ++ [v]).toArray n v (by rw [e1]; simp) (by simpa using hz)) ⟨ho, ?_⟩
  rw [e1]
  have g := get?_update_seq ho (fun xs => xs.eraseIdxIfInBounds vs.length)
  have e2 : (vs ++ [v]).toArray.eraseIdxIfInBounds vs.length = vs.toArray := by
    apply Array.toList_inj.mp
    simp [Array.eraseIdxIfInBounds, List.eraseIdx_append_of_length_le]
  rw [e2] at g
  exact ⟨_, s.toks, rfl, q _ _ (Sub.same (Heap.SameBut.update ..)) g ⟨_, rfl⟩⟩
theorem tc_extend {It Ls : Addr} {res : Value} {Q : Value → Heap → Prop} (Inv : Nat → List Value → Heap → Prop) (N : Nat) (hN : N ≤ 1000000)
    (hI : ∀ i acc h, Inv i acc h → acc.length = i ∧ ∃ o, h.get? Ls = some o ∧ IsLst o acc)
    (item : ∀ i acc h, i < N → Inv i acc h → T prog w A.in1 (pyNext (.ref It)) h fun r h₁ => ∃ v o, r = some v ∧ h₁.get? Ls = some o ∧ IsLst o acc ∧ ∀ h₂ o₂, Sub [Ls] h₁ h₂ → h₂.get? Ls = some o₂ → IsLst o₂ (acc ++ [v]) → Inv (i + 1) (acc ++ [v]) h₂)
    (done : ∀ acc h, Inv N acc h → T prog w A.in1 (pyNext (.ref It)) h fun r h₁ => r = none ∧ Q res h₁) : ∀ (k i : Nat) (acc : List Value) (h : Heap), k + i = N → Inv i acc h → TC prog w A (.builtin "list.extend.loop" ⟨[.ref Ls, .ref It, res], []⟩) h Q
  | 0, i, acc, h, e, hi => fun s es => by
    obtain rfl : i = N := by (first | lia | omega)
    refine codeAny_builtin PySem.F.entry_extend_loop ?_
    rw [Around.under_plainId PySem.F.plain_extend_loop _]
    show wpAny _ A.in1 (pyNext (.ref It) >>= _) _ _ s
    refine wpAny_bind (wpAny_mono (done acc h hi s es) ?_ fun _ _ z => z.elim)
    rintro r s' ⟨h₁, tk, rfl, rfl, q⟩
    exact wpAny_pure ⟨_, _, _, rfl, rfl, q⟩
  | k + 1, i, acc, h, e, hi => fun s es => by
    refine codeAny_builtin PySem.F.entry_extend_loop ?_
    rw [Around.under_plainId PySem.F.plain_extend_loop _]
    show wpAny _ A.in1 (pyNext (.ref It) >>= _) _ _ s
    refine wpAny_bind (wpAny_mono (item i acc h (by (first | lia | omega)) hi s es) ?_ fun _ _ z => z.elim)
    rintro r s' ⟨h₁, tk, rfl, v, o, rfl, ho, hl, nx⟩
    obtain ⟨n, rfl⟩ := hl
    have hlen := (hI i acc h hi).1
    show wpAny _ A.in1 (updateSeq Ls (·.push v) >>= _) _ _ _
    have g := get?_update_seq ho (fun xs => xs.push v)
    have e2 : acc.toArray.push v = (acc ++ [v]).toArray := by simp
    rw [e2] at g
    refine wpAny_bind (wpAny_updateSeq ho rfl (wpAny_pure ⟨plainId_quiet PySem.F.plain_extend_loop _, ?_⟩) (by rw [List.size_toArray, sizeLine_eq]; (first | lia | omega)) (by rw [Array.size_push, List.size_toArray, sizeLine_eq]; (first | lia | omega)))
    have := tc_extend Inv N hN hI item done k (i + 1) (acc ++ [v]) _ (by (first | lia | omega)) (nx _ _ (Sub.same (Heap.SameBut.update ..)) g ⟨_, rfl⟩) { s with heap := _, toks := tk } rfl
    exact codeAny_mono this (by rintro r s'' ⟨v, h'', tk', rfl, rfl, q⟩; exact ⟨v, h'', tk', rfl, rfl, q⟩)
end
end Mine

end
section
set_option linter.unusedVariables false
namespace Mine
inductive Blk (a b : List Int) : Nat → Nat → Nat → Nat → List (Nat × Nat × Nat) → Prop
  | none {alo ahi blo bhi i j : Nat} : Best a b alo blo ahi bhi i j 0 → Blk a b alo ahi blo bhi []
  | some {alo ahi blo bhi i j k : Nat} {L R : List (Nat × Nat × Nat)} : Best a b alo blo ahi bhi i j k → 0 < k → Blk a b alo i blo j L → Blk a b (i + k) ahi (j + k) bhi R → Blk a b alo ahi blo bhi (L ++ (i, j, k) :: R)
section
variable {a b : List Int} {alo ahi blo bhi i j k : Nat}
theorem best_flatA (hb : blo ≤ bhi) : Best a b alo blo alo bhi alo blo 0 where
  inA := by (first | lia | omega)
  inB := by (first | lia | omega)
  eq := fun t ht => by (first | lia | omega)
  max := fun i' j' k' h1 h2 h3 h4 _ => .inr ⟨by (first | lia | omega), by (first | lia | omega)⟩
theorem best_flatB (ha : alo ≤ ahi) : Best a b alo blo ahi blo alo blo 0 where
  inA := by (first | lia | omega)
  inB := by (first | lia | omega)
  eq := fun t ht => by (first | lia | omega)
  max := fun i' j' k' h1 h2 h3 h4 _ => .inr ⟨by (first | lia | omega), by (first | lia | omega)⟩
theorem Blk.flat (ha : alo ≤ ahi) (hb : blo ≤ bhi) (h : alo = ahi ∨ blo = bhi) : Blk a b alo ahi blo bhi [] := by
  rcases h with rfl | rfl
  · exact .none (best_flatA hb)
  · exact .none (best_flatB ha)
noncomputable def Before (x y : Nat × Nat × Nat) : Prop := x.1 + x.2.2 ≤ y.1 ∧ x.2.1 + x.2.2 ≤ y.2.1
structure Within (alo ahi blo bhi : Nat) (x : Nat × Nat × Nat) : Prop where
  a : alo ≤ x.1 ∧ x.1 + x.2.2 ≤ ahi
  b : blo ≤ x.2.1 ∧ x.2.1 + x.2.2 ≤ bhi
  pos : 0 < x.2.2
theorem Blk.within {W : List (Nat × Nat × Nat)} (h : Blk a b alo ahi blo bhi W) : (∀ x ∈ W, Within alo ahi blo bhi x) ∧ W.Pairwise Before := by
  induction h with
  | none _ => exact ⟨by simp, .nil⟩
  | some hB hk _ _ i1 i2 =>
    have e1 := hB.inA
    have e2 := hB.inB
    refine ⟨fun x hx => ?_, ?_⟩
    · rcases List.mem_append.mp hx with hx | hx
      · have := i1.1 x hx
        exact ⟨by have := this.a; (first | lia | omega), by have := this.b; (first | lia | omega), this.pos⟩
      · rcases List.mem_cons.mp hx with rfl | hx
        · exact ⟨e1, e2, hk⟩
        · have := i2.1 x hx
          exact ⟨by have := this.a; (first | lia | omega), by have := this.b; (first | lia | omega), this.pos⟩
    · refine List.pairwise_append.mpr ⟨i1.2, List.pairwise_cons.mpr ⟨fun y hy => ?_, i2.2⟩, fun x hx y hy => ?_⟩
      · have := i2.1 y hy
        exact ⟨this.a.1, this.b.1⟩
      · have hx := i1.1 x hx
        rcases List.mem_cons.mp hy with rfl | hy
        · exact ⟨hx.a.2, hx.b.2⟩
        · have hy := i2.1 y hy
          have := hx.a; have := hx.b; have := hy.a; have := hy.b
          exact ⟨by (first | lia | omega), by (first | lia | omega)⟩
theorem Blk.fst {W : List (Nat × Nat × Nat)} (h : Blk a b alo ahi blo bhi W) : W.Pairwise (fun x y => x.1 < y.1) := by
  have w := h.within
  refine (List.Pairwise.and_mem.mp w.2).imp ?_
  rintro x y ⟨hx, hy, hb⟩
  have := (w.1 x hx).pos
  have := hb.1
  (first | lia | omega)
theorem Blk.len {W : List (Nat × Nat × Nat)} (h : Blk a b alo ahi blo bhi W) : W.length ≤ ahi - alo ∧ W.length ≤ bhi - blo := by
  induction h with
  | none _ => simp
  | some hB hk _ _ i1 i2 =>
    have e1 := hB.inA
    have e2 := hB.inB
    simp only [List.length_append, List.length_cons]
    (first | lia | omega)
theorem sorted_unique : ∀ {xs ys : List (Nat × Nat × Nat)}, xs.Perm ys → xs.Pairwise (fun x y => x.1 < y.1) → ys.Pairwise (fun x y => x.1 < y.1) → xs = ys
  | [], ys, p, _, _ => p.nil_eq
  | x :: xs, [], p, _, _ => absurd p.length_eq (by simp)
  | x :: xs, y :: ys, p, hx, hy => by
    have hx' := List.pairwise_cons.mp hx
    have hy' := List.pairwise_cons.mp hy
    have e : x = y := by
      rcases List.mem_cons.mp (p.mem_iff.mp (.head _) : x ∈ y :: ys) with h | h
      · exact h
      · rcases List.mem_cons.mp (p.mem_iff.mpr (.head _) : y ∈ x :: xs) with h' | h'
        · exact h'.symm
        · have := hx'.1 y h'; have := hy'.1 x h; (first | lia | omega)
    subst e
    rw [sorted_unique (List.Perm.cons_inv p) hx'.2 hy'.2]
noncomputable def merge : Nat × Nat × Nat → List (Nat × Nat × Nat) → List (Nat × Nat × Nat)
  | c, [] => if c.2.2 = 0 then [] else [c]
  | c, x :: r => if c.1 + c.2.2 = x.1 ∧ c.2.1 + c.2.2 = x.2.1 then merge (c.1, c.2.1, c.2.2 + x.2.2) r else (if c.2.2 = 0 then [] else [c]) ++ merge x r
noncomputable abbrev Reg := Nat × Nat × Nat × Nat
inductive Rest (a b : List Int) : List Reg → List (List (Nat × Nat × Nat)) → Prop
  | nil : Rest a b [] []
  | cons {r : Reg} {rs : List Reg} {L : List (Nat × Nat × Nat)} {Ls : List (List (Nat × Nat × Nat))} : Blk a b r.1 r.2.1 r.2.2.1 r.2.2.2 L → Rest a b rs Ls → Rest a b (r :: rs) (L :: Ls)
theorem Rest.snoc {rs : List Reg} {Ls : List (List (Nat × Nat × Nat))} {r : Reg} {L : List (Nat × Nat × Nat)} (h : Rest a b rs Ls) (hL : Blk a b r.1 r.2.1 r.2.2.1 r.2.2.2 L) : Rest a b (rs ++ [r]) (Ls ++ [L]) := by
  induction h with
  | nil => exact .cons hL .nil
  | cons h' _ ih => exact .cons h' ih
theorem Rest.split : ∀ {rs : List Reg} {Ls : List (List (Nat × Nat × Nat))} {r : Reg}, Rest a b (rs ++ [r]) Ls → ∃ Ls' L, Ls = Ls' ++ [L] ∧ Rest a b rs Ls' ∧ Blk a b r.1 r.2.1 r.2.2.1 r.2.2.2 L
  | [], _, r, .cons h .nil => ⟨[], _, rfl, .nil, h⟩
  | x :: rs, _, r, .cons h h' => by
    obtain ⟨Ls', L, rfl, h1, h2⟩ := Rest.split h'
    exact ⟨_ :: Ls', L, rfl, .cons h h1, h2⟩
structure Qu (a b : List Int) (rs : List Reg) (bs : List (Nat × Nat × Nat)) : Prop where
  ok : ∀ r ∈ rs, r.1 ≤ r.2.1 ∧ r.2.1 ≤ a.length ∧ r.2.2.1 ≤ r.2.2.2 ∧ r.2.2.2 ≤ b.length
  fin : ∀ Ls, Rest a b rs Ls → ∃ W, Blk a b 0 a.length 0 b.length W ∧ (bs ++ Ls.flatten).Perm W
noncomputable def mu (rs : List Reg) : Nat := (rs.map fun r => 2 * (r.2.1 - r.1) + 1).sum
theorem mu_snoc {rs : List Reg} {r : Reg} : mu (rs ++ [r]) = mu rs + (2 * (r.2.1 - r.1) + 1) := by simp [mu]
theorem Qu.start : Qu a b [(0, a.length, 0, b.length)] [] where
  ok := fun r hr => by
    obtain rfl := List.mem_singleton.mp hr
    exact ⟨Nat.zero_le _, Nat.le_refl _, Nat.zero_le _, Nat.le_refl _⟩
  fin := fun Ls h => by
    cases h with
    | cons h h' => cases h'; exact ⟨_, h, by simp⟩
theorem Qu.zero {rs : List Reg} {bs : List (Nat × Nat × Nat)} {r : Reg} (q : Qu a b (rs ++ [r]) bs) (hB : Best a b r.1 r.2.2.1 r.2.1 r.2.2.2 i j 0) : Qu a b rs bs where
  ok := fun x hx => q.ok x (List.mem_append_left _ hx)
  fin := fun Ls h => by
    obtain ⟨W, w1, w2⟩ := q.fin _ (h.snoc (.none hB))
    exact ⟨W, w1, by simpa using w2⟩
theorem Qu.step {rs : List Reg} {bs : List (Nat × Nat × Nat)} {r : Reg} (q : Qu a b (rs ++ [r]) bs) (hB : Best a b r.1 r.2.2.1 r.2.1 r.2.2.2 i j k) (hk : 0 < k) (left right : Bool) (hl : left = false → r.1 = i ∨ r.2.2.1 = j) (hr : right = false → i + k = r.2.1 ∨ j + k = r.2.2.2) :
    Qu a b (rs ++ (if left then [(r.1, i, r.2.2.1, j)] else []) ++ (if right then [(i + k, r.2.1, j + k, r.2.2.2)] else [])) (bs ++ [(i, j, k)]) where
  ok := fun x hx => by
    have o := q.ok r (by simp)
    have e1 := hB.inA
    have e2 := hB.inB
    rcases List.mem_append.mp hx with hx | hx
    · rcases List.mem_append.mp hx with hx | hx
      · exact q.ok x (List.mem_append_left _ hx)
      · cases left with
        | false => simp at hx
        | true =>
          obtain rfl := List.mem_singleton.mp hx
          exact ⟨e1.1, by show i ≤ _; (first | lia | omega), e2.1, by show j ≤ _; (first | lia | omega)⟩
    · cases right with
      | false => simp at hx
      | true =>
        obtain rfl := List.mem_singleton.mp hx
        exact ⟨e1.2, o.2.1, e2.2, o.2.2.2⟩
  fin := fun Ls h => by
    have e1 := hB.inA
    have e2 := hB.inB
    have goR : ∃ Ls' R, Rest a b (rs ++ (if left then [(r.1, i, r.2.2.1, j)] else [])) Ls' ∧ Blk a b (i + k) r.2.1 (j + k) r.2.2.2 R ∧ Ls.flatten = Ls'.flatten ++ R := by
      cases right with
      | true =>
        obtain ⟨Ls', R, rfl, h1, h2⟩ := Rest.split h
        exact ⟨Ls', R, h1, h2, by simp⟩
      | false =>
        exact ⟨Ls, [], by simpa using h, Blk.flat e1.2 e2.2 (hr rfl), by simp⟩
    obtain ⟨Ls', R, h1, hR, eR⟩ := goR
    have goL : ∃ Ls'' L, Rest a b rs Ls'' ∧ Blk a b r.1 i r.2.2.1 j L ∧ Ls'.flatten = Ls''.flatten ++ L := by
      cases left with
      | true =>
        obtain ⟨Ls'', L, rfl, h1, h2⟩ := Rest.split h1
        exact ⟨Ls'', L, h1, h2, by simp⟩
      | false =>
        exact ⟨Ls', [], by simpa using h1, Blk.flat e1.1 e2.1 (hl rfl), by simp⟩
    obtain ⟨Ls'', L, h2, hL, eL⟩ := goL
    obtain ⟨W, w1, w2⟩ := q.fin _ (h2.snoc (.some hB hk hL hR))
    refine ⟨W, w1, List.Perm.trans ?_ w2⟩
    rw [eR, eL]
    simp only [List.flatten_append, List.flatten_cons, List.flatten_nil, List.append_nil, List.append_assoc]
    refine List.Perm.append_left _ ?_
    have p1 : ([(i, j, k)] ++ Ls''.flatten ++ (L ++ R)).Perm (Ls''.flatten ++ [(i, j, k)] ++ (L ++ R)) := List.Perm.append_right _ List.perm_append_comm
    have p2 : ([(i, j, k)] ++ L ++ R).Perm (L ++ [(i, j, k)] ++ R) := List.Perm.append_right _ List.perm_append_comm
    simp only [List.append_assoc] at p1 p2
    exact p1.trans (List.Perm.append_left _ p2)
theorem Qu.mu_lt {rs : List Reg} {r : Reg} (hB : Best a b r.1 r.2.2.1 r.2.1 r.2.2.2 i j k) (hk : 0 < k) (left right : Bool) :
    mu (rs ++ (if left then [(r.1, i, r.2.2.1, j)] else []) ++ (if right then [(i + k, r.2.1, j + k, r.2.2.2)] else [])) < mu (rs ++ [r]) := by
  have e1 := hB.inA
  rw [mu_snoc]
  cases left <;> cases right <;> simp [mu] <;> (first | lia | omega)
end
end Mine

end
section
open PySem PySem.W PyProof.Rows PySem.Calls
set_option Elab.async false
set_option linter.unusedVariables false
set_option maxRecDepth 100000
set_option maxHeartbeats 4000000
namespace Mine
noncomputable def gmbB : List Stmt := bodyN (stN (bodyN (stN pwBody 5)) 7)
noncomputable def whileBody : Stmt → List Stmt
  | .While _ b _ _ => b
  | _ => []
noncomputable def quB : List Stmt := whileBody (stN gmbB 5)
noncomputable def ifBody : Stmt → List Stmt
  | .If _ b _ _ => b
  | _ => []
noncomputable abbrev gmbN : List Str := [(Str.ofString "self"), (Str.ofString "la"), (Str.ofString "lb"), (Str.ofString "queue"), (Str.ofString "matching_blocks"), (Str.ofString "alo"), (Str.ofString "ahi"), (Str.ofString "blo"), (Str.ofString "bhi"), (Str.ofString "i"), (Str.ofString "j"), (Str.ofString "k"), (Str.ofString "x"), (Str.ofString "i1"), (Str.ofString "j1"), (Str.ofString "k1"), (Str.ofString "non_adjacent"), (Str.ofString "i2"), (Str.ofString "j2"), (Str.ofString "k2")]
inductive RegsIn (fam : List (Addr × Obj)) : List Value → List Reg → Prop
  | nil : RegsIn fam [] []
  | cons {t : Addr} {o : Obj} {r : Reg} {t1 t2 t3 t4 : Tok} {vs : List Value} {rs : List Reg} : (t, o) ∈ fam → IsTupO o [.int r.1 t1, .int r.2.1 t2, .int r.2.2.1 t3, .int r.2.2.2 t4] → RegsIn fam vs rs → RegsIn fam (.ref t :: vs) (r :: rs)
inductive MtsIn (fam : List (Addr × Obj)) : List Value → List (Nat × Nat × Nat) → Prop
  | nil : MtsIn fam [] []
  | cons {x da : Addr} {i j k : Nat} {t1 t2 t3 : Tok} {vs : List Value} {bs : List (Nat × Nat × Nat)} : (x, matchObj da [.int i t1, .int j t2, .int k t3]) ∈ fam → MtsIn fam vs bs → MtsIn fam (.ref x :: vs) ((i, j, k) :: bs)
section
variable {prog : Program} {w : World} {A : Around} {h h' h₀ : Heap} {env : Env} {m : Str → Option Value} {fam fam' : List (Addr × Obj)} {vs : List Value} {rs : List Reg} {bs : List (Nat × Nat × Nat)}
theorem RegsIn.mono (x : RegsIn fam vs rs) (s : ∀ p ∈ fam, p ∈ fam') : RegsIn fam' vs rs := by
  induction x with
  | nil => exact .nil
  | cons a b _ ih => exact .cons (s _ a) b ih
theorem RegsIn.snoc {t : Addr} {o : Obj} {r : Reg} {t1 t2 t3 t4 : Tok} (x : RegsIn fam vs rs) (ht : (t, o) ∈ fam) (ho : IsTupO o [.int r.1 t1, .int r.2.1 t2, .int r.2.2.1 t3, .int r.2.2.2 t4]) : RegsIn fam (vs ++ [.ref t]) (rs ++ [r]) := by
  induction x with
  | nil => exact .cons ht ho .nil
  | cons a b _ ih => exact .cons a b ih
theorem RegsIn.last : ∀ {vs : List Value} {rs : List Reg}, RegsIn fam vs rs → vs ≠ [] → ∃ vs' rs' t o r t1 t2 t3 t4, vs = vs' ++ [.ref t] ∧ rs = rs' ++ [r] ∧ RegsIn fam vs' rs' ∧ (t, o) ∈ fam ∧ IsTupO o [.int r.1 t1, .int r.2.1 t2, .int r.2.2.1 t3, .int r.2.2.2 t4]
  | _, _, .nil, h => absurd rfl h
  | _, _, .cons (vs := []) a b .nil, _ => ⟨[], [], _, _, _, _, _, _, _, rfl, rfl, .nil, a, b⟩
  | _, _, .cons (vs := v :: vs) a b r, _ => by
    obtain ⟨vs', rs', t, o, r', t1, t2, t3, t4, e1, e2, x, y, z⟩ := RegsIn.last r (by first | walk_at "mem" | simp)
    exact ⟨_ :: vs', _ :: rs', t, o, r', t1, t2, t3, t4, by rw [e1]; rfl, by rw [e2]; rfl, .cons a b x, y, z⟩
theorem RegsIn.length (x : RegsIn fam vs rs) : vs.length = rs.length := by
  induction x with
  | nil => rfl
  | cons _ _ _ ih => simp [ih]
theorem MtsIn.mono (x : MtsIn fam vs bs) (s : ∀ p ∈ fam, p ∈ fam') : MtsIn fam' vs bs := by
  induction x with
  | nil => exact .nil
  | cons a _ ih => exact .cons (s _ a) ih
theorem MtsIn.snoc {y da : Addr} {i j k : Nat} {t1 t2 t3 : Tok} (x : MtsIn fam vs bs) (hy : (y, matchObj da [.int i t1, .int j t2, .int k t3]) ∈ fam) : MtsIn fam (vs ++ [.ref y]) (bs ++ [(i, j, k)]) := by
  induction x with
  | nil => exact .cons hy .nil
  | cons a _ ih => exact .cons a ih
theorem MtsIn.are (x : MtsIn fam vs bs) (s : ∀ p ∈ fam, h.get? p.1 = some p.2) : MtsAre h vs bs := by
  induction x with
  | nil => exact .nil
  | cons a _ ih => exact .cons (s _ a) ih
theorem MtsIn.length (x : MtsIn fam vs bs) : vs.length = bs.length := by
  induction x with
  | nil => rfl
  | cons _ _ ih => simp [ih]
theorem dic_ne {N : List Str} {dx d : Addr} {od o : Obj} {am : Str → Option Value} {y : Str} {v : Value} {kvs : List (Int × Value)} (hdx : h.get? dx = some od) (ia : IsAttrs N od am) (hy : am y = some v) (hd : h.get? d = some o) (hi : IsDic prog w o kvs) : d ≠ dx := fun q => by
  subst q
  rw [hdx] at hd
  obtain rfl := Option.some.inj hd
  obtain ⟨es, n, rfl, hf, hk, _⟩ := ia
  obtain ⟨es', ep, _, e1, hks, _⟩ := hi
  have e1 : es.toArray = es' := by cases e1; rfl
  subst e1
  have := hf y
  rw [hy] at this
  cases e2 : es.find? (·.key.isStr y) with
  | none => rw [e2] at this; cases this
  | some e =>
    obtain ⟨s, _, t, e3⟩ := hk e (List.mem_of_find?_eq_some e2)
    obtain ⟨k, hk'⟩ := hks e (by simpa using List.mem_of_find?_eq_some e2)
    rw [e3] at hk'
    exact Bool.false_ne_true hk'.1
theorem B2J.keep {d dx : Addr} {ms : List Int} {N : List Str} {od : Obj} {am : Str → Option Value} {y : Str} {v : Value} (B : B2J prog w h d ms) (hdx : h.get? dx = some od) (ia : IsAttrs N od am) (hy : am y = some v) (x : Sub [dx] h h') : B2J prog w h' d ms := by
  obtain ⟨⟨o, kvs, fam, g, di, fo, hf⟩, lo⟩ := B
  have nd := dic_ne hdx ia hy g di
  refine ⟨⟨o, kvs, fam.filter fun p => p.1 ≠ dx, x _ _ (by simpa using nd) g, di, ⟨fun k hk => ?_, fo.no, fo.inj, fo.len⟩, fun p hp => ?_⟩, lo⟩
  · obtain ⟨a, ob, us, h1, h2, h3, h4⟩ := fo.there k hk
    refine ⟨a, ob, us, h1, List.mem_filter.mpr ⟨h2, ?_⟩, h3, h4⟩
    have := list_ne (h3.isList (hf _ h2)) hdx ia
    simpa using this
  · obtain ⟨hp, np⟩ := List.mem_filter.mp hp
    exact x _ _ (by simpa using np) (hf p hp)
theorem fn_gmb (P : Params) : FnOk (frag P) at_SequenceMatcher_get_matching_blocks fdOf_SequenceMatcher_get_matching_blocks gmbB :=
  ⟨⟨obOf_SequenceMatcher_get_matching_blocks P, by kernel_rfl!, rfl⟩, by kernel_rfl!, by kernel_rfl!, by kernel_rfl!, by kernel_rfl!, by kernel_rfl!, by kernel_rfl!, by kernel_rfl!, by kernel_rfl!⟩
structure Mat (prog : Program) (w : World) (h : Heap) (x dx : Addr) (od : Obj) (am : Str → Option Value) (ns ms : List Int) : Prop where
  ob : h.get? x = some (instObj aSM dx)
  dict : h.get? dx = some od
  attrs : IsAttrs attrN od am
  la : ∃ ax vs, am (Str.ofString "a") = some (.ref ax) ∧ h.IsList ax (List.toArray vs) ∧ IntsAre vs ns
  lb : ∃ bx us, am (Str.ofString "b") = some (.ref bx) ∧ h.IsList bx (List.toArray us) ∧ IntsAre us ms
  b2j : ∃ d, am (Str.ofString "b2j") = some (.ref d) ∧ B2J prog w h d ms
  junk : ∃ dj led, am (Str.ofString "bjunk") = some (.ref dj) ∧ h.get? dj = some (emptySet led)
  za : ns.length < 100000
  zb : ms.length < 100000
theorem Mat.keep {x dx : Addr} {od : Obj} {am : Str → Option Value} {ns ms : List Int} (M : Mat prog w h x dx od am ns ms) (s : Sub [dx] h h') (hd : h'.get? dx = some od) : Mat prog w h' x dx od am ns ms where
  ob := s _ _ (by simpa using inst_ne M.ob M.dict M.attrs) M.ob
  dict := hd
  attrs := M.attrs
  la := by
    obtain ⟨ax, vs, h1, h2, h3⟩ := M.la
    exact ⟨ax, vs, h1, h2.at fun o eo => s _ _ (by simpa using list_ne h2 M.dict M.attrs) eo, h3⟩
  lb := by
    obtain ⟨ax, vs, h1, h2, h3⟩ := M.lb
    exact ⟨ax, vs, h1, h2.at fun o eo => s _ _ (by simpa using list_ne h2 M.dict M.attrs) eo, h3⟩
  b2j := by
    obtain ⟨d, h1, h2⟩ := M.b2j
    exact ⟨d, h1, h2.keep M.dict M.attrs h1 s⟩
  junk := by
    obtain ⟨dj, led, h1, h2⟩ := M.junk
    refine ⟨dj, led, h1, s _ _ ?_ h2⟩
    intro q
    obtain rfl : dj = dx := by simpa using q
    obtain ⟨es, n, e1, _⟩ := M.attrs
    rw [M.dict, e1] at h2
    exact absurd (congrArg Obj.cls (Option.some.inj h2)) (by simp [emptySet])
  za := M.za
  zb := M.zb
theorem Mat.find {x dx : Addr} {od : Obj} {am : Str → Option Value} {ns ms : List Int} {alo ahi blo bhi : Nat} {t1 t2 t3 t4 : Tok} {Q : Value → Heap → Prop} (M : Mat prog w h x dx od am ns ms) (G : Gr (frag w.params) h) (hh : A.handled = none) (hroom : A.depth + 8 < recursionLimit)
    (b1 : alo ≤ ahi) (b2 : ahi ≤ ns.length) (b3 : blo ≤ bhi) (b4 : bhi ≤ ms.length)
    (q : ∀ (h' : Heap) y da (i j k : Nat) t1 t2 t3, Sub [] h h' → h.get? y = none → h'.get? y = some (matchObj da [.int i t1, .int j t2, .int k t3]) → Best ns ms alo blo ahi bhi i j k → Q (.ref y) h') :
    TC prog w A (.call (.ref at_SequenceMatcher_find_longest_match) ⟨[.ref x, .int alo t1, .int ahi t2, .int blo t3, .int bhi t4], []⟩) h Q := by
  obtain ⟨ax, vs, a1, a2, a3⟩ := M.la
  obtain ⟨bx, us, c1, c2, c3⟩ := M.lb
  obtain ⟨d, d1, d2⟩ := M.b2j
  obtain ⟨dj, led, e1, e2⟩ := M.junk
  exact find_longest G hh hroom M.ob M.dict M.attrs a1 c1 d1 e1 d2 e2 a2 a3 c2 c3 b1 b2 b3 b4 M.za M.zb q
inductive QuOut (h₀ : Heap) (L : Addr) (m : Str → Option Value) (ns ms : List Int) (dx qa ba : Addr) (od : Obj) (rs : List Reg) (bs : List (Nat × Nat × Nat)) (h₃ : Heap) : Prop
  | mk (m' : Str → Option Value) (oq' ob' : Obj) (vq' vb' : List Value) (fam' : List (Addr × Obj)) (rs' : List Reg) (bs' : List (Nat × Nat × Nat)) (x1 : Keep m' m [(Str.ofString "alo"), (Str.ofString "ahi"), (Str.ofString "blo"), (Str.ofString "bhi"), (Str.ofString "i"), (Str.ofString "j"), (Str.ofString "k"), (Str.ofString "x")]) (x2 : IsLst oq' vq') (x3 : IsLst ob' vb') (x4 : RegsIn fam' vq' rs') (x5 : MtsIn fam' vb' bs') (x6 : Qu ns ms rs' bs') (x7 : mu rs' < mu rs) (x8 : bs'.length ≤ bs.length + 1) (x9 : S h₀ [dx] L m' ((dx, od) :: (qa, oq') :: (ba, ob') :: fam') h₃)
theorem gmb_turn {x dx qa ba : Addr} {od oq ob : Obj} {am : Str → Option Value} {ns ms : List Int} {vq vb : List Value} (e : EnvOk env) (hL : Loc env gmbN) (hh : A.handled = none) (hroom : A.depth + 8 < recursionLimit) (hmeth : am (Str.ofString "find_longest_match") = none)
    (GG : ∀ {m l h₂}, S h₀ [dx] env.locals m l h₂ → Gr (frag w.params) h₂) (MM : Mat prog w h₀ x dx od am ns ms)
    (m1 : m (Str.ofString "self") = some (.ref x)) (m2 : m (Str.ofString "queue") = some (.ref qa)) (m3 : m (Str.ofString "matching_blocks") = some (.ref ba)) (hq : IsLst oq vq) (hb : IsLst ob vb) (hr : RegsIn fam vq rs) (hm : MtsIn fam vb bs) (hne : vq ≠ []) (Hq : Qu ns ms rs bs) (hz : rs.length < 100000) (hz2 : bs.length < 100000)
    (H : S h₀ [dx] env.locals m ((dx, od) :: (qa, oq) :: (ba, ob) :: fam) h)
    {Q : Flow → Heap → Prop} (qn : ∀ h₃, QuOut h₀ env.locals m ns ms dx qa ba od rs bs h₃ → Q .next h₃) : T prog w A (execs quB env) h Q := by
  obtain ⟨vs', rs', t, o, r, t1, t2, t3, t4, rfl, rfl, hr', ht, hot⟩ := hr.last hne
  obtain ⟨alo, ahi, blo, bhi⟩ := r
  simp only at hot
  have P := plainSM w.params
  have hlen := hr'.length
  refine T.execs_cons (t_AssignTupN (T.Call_method ?_) rfl)
  walk_at "nm"
  have gq : h.get? qa = some oq := H.get (by first | walk_at "mem" | simp)
  refine t_getMethodB gq hq.cls.1 hq.cls.2 PySem.F.plainAttrs_list PySem.F.slot_list_pop PySem.F.type_list_pop ?_
  refine T.callWith ⟨Keeps.builtin, ?_⟩ rfl
  refine t_pop gq hq (by rw [sizeLine_eq]; simp at hz; (first | lia | omega)) fun h₁ oq₁ s₁ g₁ l₁ => ?_
  have H₁ : S h₀ [dx] env.locals m ((dx, od) :: (qa, oq₁) :: (ba, ob) :: fam) h₁ := H.upd (o' := oq₁) 1 (d := qa) (o := oq) (by first | walk_at "mem" | simp) s₁ g₁
  refine t_assignTupN (names := [(Str.ofString "alo"), (Str.ofString "ahi"), (Str.ofString "blo"), (Str.ofString "bhi")]) e hh H₁ (H₁.get (by simp [ht])) hot rfl (hL.subs (by decide +kernel)) fun h₂ H₂ => ?_
  simp only [updAll] at H₂
  have ok := Hq.ok (alo, ahi, blo, bhi) (by first | walk_at "mem" | simp)
  simp only at ok
  refine T.execs_cons (t_Assign2 (T.Call_method ?_))
  walk_at "nm"
  have M₂ := MM.keep H₂.base (H₂.get (by first | walk_at "mem" | simp))
  refine T.getMeth (f := at_SequenceMatcher_find_longest_match) P (GG H₂).k ⟨M₂.ob, M₂.dict⟩ M₂.attrs hmeth (by kernel_rfl!) (by kernel_rfl!) ?_
  refine T.callWith ?_ rfl
  walk_at "nm"
  walk_at "nm"
  walk_at "nm"
  walk_at "nm"
  refine ⟨Keeps.frag (GG H₂).k (by kernel_rfl!), T.call ?_⟩
  refine M₂.find (GG H₂) hh hroom ok.1 ok.2.1 ok.2.2.1 ok.2.2.2 fun h₃ y da i j k u1 u2 u3 s₃ n₃ g₃ hB => ?_
  have H₃ := H₂.add s₃ n₃ g₃
  refine t_assignMtN (names := [(Str.ofString "i"), (Str.ofString "j"), (Str.ofString "k")]) e hh H₃ (GG H₃).k g₃ rfl (hL.subs (by decide +kernel)) fun h₄ H₄ => ?_
  simp only [updAll] at H₄
  refine t_assignName e H₄ (fun h₅ H₅ => ?_) (hL.of (by first | walk_at "mem" | simp))
  have H₅' := H₅.perm (l' := (dx, od) :: (qa, oq₁) :: (ba, ob) :: (y, matchObj da [.int i u1, .int j u2, .int k u3]) :: fam) ((List.Perm.swap _ _ _).trans (.cons _ ((List.Perm.swap _ _ _).trans (.cons _ (List.Perm.swap _ _ _)))))
  generalize hm5 : upd (upd (upd (upd (upd (upd (upd (upd m (Str.ofString "alo") (.int alo t1)) (Str.ofString "ahi") (.int ahi t2)) (Str.ofString "blo") (.int blo t3)) (Str.ofString "bhi") (.int bhi t4)) (Str.ofString "i") (.int i u1)) (Str.ofString "j") (.int j u2)) (Str.ofString "k") (.int k u3)) (Str.ofString "x") (.ref y) = m₅ at *
  have kp : Keep m₅ m [(Str.ofString "alo"), (Str.ofString "ahi"), (Str.ofString "blo"), (Str.ofString "bhi"), (Str.ofString "i"), (Str.ofString "j"), (Str.ofString "k"), (Str.ofString "x")] := by
    subst hm5
    intro y hy
    simp only [List.mem_cons, List.not_mem_nil, or_false, not_or] at hy
    obtain ⟨n1, n2, n3, n4, n5, n6, n7, n8⟩ := hy
    simp [upd, n1, n2, n3, n4, n5, n6, n7, n8]
  have c1 : m₅ (Str.ofString "alo") = some (.int alo t1) := by subst hm5; walk_at "look"
  have c2 : m₅ (Str.ofString "ahi") = some (.int ahi t2) := by subst hm5; walk_at "look"
  have c3 : m₅ (Str.ofString "blo") = some (.int blo t3) := by subst hm5; walk_at "look"
  have c4 : m₅ (Str.ofString "bhi") = some (.int bhi t4) := by subst hm5; walk_at "look"
  have c5 : m₅ (Str.ofString "i") = some (.int i u1) := by subst hm5; walk_at "look"
  have c6 : m₅ (Str.ofString "j") = some (.int j u2) := by subst hm5; walk_at "look"
  have c7 : m₅ (Str.ofString "k") = some (.int k u3) := by subst hm5; walk_at "look"
  have c8 : m₅ (Str.ofString "x") = some (.ref y) := by subst hm5; walk_at "look"
  have c9 : m₅ (Str.ofString "queue") = some (.ref qa) := by subst hm5; walk_at "look"
  have c10 : m₅ (Str.ofString "matching_blocks") = some (.ref ba) := by subst hm5; walk_at "look"
  clear hm5
  refine T.execs_cons (T.If (t_isTrue_plain ?_))
  walk_at "nm"
  refine t_truthy_int ?_
  apply ite_cases <;> intro _
  case isFalse hk =>
    have hk0 : k = 0 := by simpa using hk
    subst hk0
    refine T.execs_nil (T.execs_nil (qn _ ⟨m₅, oq₁, ob, vs', vb, _, rs', bs, kp, l₁, hb, hr'.mono (fun p hp => .tail _ hp), hm.mono (fun p hp => .tail _ hp), Hq.zero hB, by rw [mu_snoc]; (first | lia | omega), by (first | lia | omega), H₅'⟩))
  rename_i hk
  have hk : 0 < k := by
    have : (k : Int) ≠ 0 := by simpa using hk
    (first | lia | omega)
  refine T.execs_cons (T.Expr (T.Call_method ?_) e.inter)
  walk_at "nm"
  have gb : h₅.get? ba = some ob := H₅'.get (by first | walk_at "mem" | simp)
  refine t_getMethodB gb hb.cls.1 hb.cls.2 PySem.F.plainAttrs_list PySem.F.slot_list_append PySem.F.type_list_append ?_
  refine T.callWith ?_ rfl
  walk_at "nm"
  refine ⟨Keeps.builtin, t_append gb hb (by have := hm.length; rw [sizeLine_eq]; (first | lia | omega)) fun h₆ ob₆ s₆ g₆ l₆ => ⟨(fun b q => by cases q), ?_⟩⟩
  have H₆ : S h₀ [dx] env.locals m₅ ((dx, od) :: (qa, oq₁) :: (ba, ob₆) :: (y, matchObj da [.int i u1, .int j u2, .int k u3]) :: fam) h₆ := H₅'.upd (o' := ob₆) 2 (d := ba) (o := ob) (by first | walk_at "mem" | simp) s₆ g₆
  have hm₆ : MtsIn ((y, matchObj da [.int i u1, .int j u2, .int k u3]) :: fam) (vb ++ [.ref y]) (bs ++ [(i, j, k)]) := (hm.mono (fun p hp => .tail _ hp)).snoc (.head _)
  have hr₆ : RegsIn ((y, matchObj da [.int i u1, .int j u2, .int k u3]) :: fam) vs' rs' := hr'.mono (fun p hp => .tail _ hp)
  have iA := hB.inA
  have iB := hB.inB
  have second : ∀ {oq₇ : Obj} {vq₇ : List Value} {fam₇ : List (Addr × Obj)} {rs₇ : List Reg} {h₇ : Heap} {Q : Flow → Heap → Prop}, IsLst oq₇ vq₇ → RegsIn fam₇ vq₇ rs₇ → rs₇.length < 100001 → S h₀ [dx] env.locals m₅ ((dx, od) :: (qa, oq₇) :: (ba, ob₆) :: fam₇) h₇ →
      (∀ (right : Bool) oq₈ vq₈ fam₈ h₈, (right = false → i + k = ahi ∨ j + k = bhi) → IsLst oq₈ vq₈ → RegsIn fam₈ vq₈ (rs₇ ++ (if right then [(i + k, ahi, j + k, bhi)] else [])) → (∀ p ∈ fam₇, p ∈ fam₈) → S h₀ [dx] env.locals m₅ ((dx, od) :: (qa, oq₈) :: (ba, ob₆) :: fam₈) h₈ → Q .next h₈) →
      T prog w A (execs ((ifBody (stN quB 2)).drop 2) env) h₇ Q := by
    intro oq₇ vq₇ fam₇ rs₇ h₇ Q hq₇ hr₇ hz₇ H₇ q
    have no : (i + k = ahi ∨ j + k = bhi) → Q .next h₇ := fun c => q false oq₇ vq₇ fam₇ h₇ (fun _ => c) hq₇ (by simpa using hr₇) (fun p hp => hp) H₇
    refine T.execs_cons (T.If (t_isTrue_and (T.isTrue_Compare (T.BinOp ?_))))
    walk_at "nm"
    walk_at "nm"
    refine T.add fun w1 => ?_
    walk_at "nm"
    refine T.lt (T.truthy_bool ?_)
    apply ite_cases <;> intro _
    case isFalse z =>
      have z : ¬ (i : Int) + k < ahi := fun q => z (decide_eq_true q)
      exact T.execs_nil (T.execs_nil (no (.inl (by (first | lia | omega)))))
    refine t_isTrue_and (T.isTrue_Compare (T.BinOp ?_))
    walk_at "nm"
    walk_at "nm"
    refine T.add fun w2 => ?_
    walk_at "nm"
    refine T.lt (T.truthy_bool ?_)
    apply ite_cases <;> intro _
    case isFalse z =>
      have z : ¬ (j : Int) + k < bhi := fun q => z (decide_eq_true q)
      exact T.execs_nil (T.execs_nil (no (.inr (by (first | lia | omega)))))
    refine t_isTrue_and0 ?_
    refine T.execs_cons (T.Expr (T.Call_method ?_) e.inter)
    walk_at "nm"
    have gq₇ : h₇.get? qa = some oq₇ := H₇.get (by first | walk_at "mem" | simp)
    refine t_getMethodB gq₇ hq₇.cls.1 hq₇.cls.2 PySem.F.plainAttrs_list PySem.F.slot_list_append PySem.F.type_list_append ?_
    refine T.callWith ?_ rfl
    refine t_Tuple (T.BinOp ?_) rfl
    walk_at "nm"
    walk_at "nm"
    refine T.add fun w3 => ?_
    walk_at "nm"
    refine T.BinOp ?_
    walk_at "nm"
    walk_at "nm"
    refine T.add fun w4 => ?_
    walk_at "nm"
    refine ⟨by show 4 ≤ sizeLine; decide, fun ta h₈ ot s₈ n₈ g₈ l₈ => ⟨Keeps.builtin, ?_⟩⟩
    have H₈ := H₇.add s₈ n₈ g₈
    have gq₈ : h₈.get? qa = some oq₇ := H₈.get (by first | walk_at "mem" | simp)
    refine t_append gq₈ hq₇ (by have := hr₇.length; rw [sizeLine_eq]; (first | lia | omega)) fun h₉ oq₉ s₉ g₉ l₉ => ⟨(fun b q => by cases q), ?_⟩
    have H₉ := (H₈.upd (o' := oq₉) 2 (d := qa) (o := oq₇) (by first | walk_at "mem" | simp) s₉ g₉).perm (l' := (dx, od) :: (qa, oq₉) :: (ba, ob₆) :: (ta, ot) :: fam₇) ((List.Perm.swap _ _ _).trans (.cons _ ((List.Perm.swap _ _ _).trans (.cons _ (List.Perm.swap _ _ _)))))
    refine T.execs_nil (T.execs_nil (q true oq₉ _ ((ta, ot) :: fam₇) h₉ (fun c => by cases c) l₉ ?_ (fun p hp => .tail _ hp) H₉))
    exact (hr₇.mono (fun p hp => .tail _ hp)).snoc (r := (i + k, ahi, j + k, bhi)) (.head _) l₈
  have third : ∀ {oq₇ : Obj} {vq₇ : List Value} {fam₇ : List (Addr × Obj)} {h₇ : Heap} (left : Bool), (left = false → alo = i ∨ blo = j) → IsLst oq₇ vq₇ → RegsIn fam₇ vq₇ (rs' ++ (if left then [(alo, i, blo, j)] else [])) → MtsIn fam₇ (vb ++ [.ref y]) (bs ++ [(i, j, k)]) → S h₀ [dx] env.locals m₅ ((dx, od) :: (qa, oq₇) :: (ba, ob₆) :: fam₇) h₇ →
      ∀ {Q' : Flow → Heap → Prop}, (∀ h₃, QuOut h₀ env.locals m ns ms dx qa ba od (rs' ++ [(alo, ahi, blo, bhi)]) bs h₃ → Q' .next h₃) → T prog w A (execs ((ifBody (stN quB 2)).drop 2) env) h₇ Q' := by
    intro oq₇ vq₇ fam₇ h₇ left hl hq₇ hr₇ hm₇ H₇ Q' q'
    refine second hq₇ hr₇ (by simp at hz ⊢; cases left <;> simp <;> (first | lia | omega)) H₇ fun right oq₈ vq₈ fam₈ h₈ hrt hq₈ hr₈ hs H₈ => ?_
    exact q' _ ⟨m₅, oq₈, ob₆, vq₈, _, fam₈, _, _, kp, hq₈, l₆, hr₈, hm₇.mono hs, Hq.step hB hk left right hl hrt, Qu.mu_lt (r := (alo, ahi, blo, bhi)) hB hk left right, by simp, H₈⟩
  have no : (alo = i ∨ blo = j) → ∀ {Q' : Flow → Heap → Prop}, (∀ h₃, QuOut h₀ env.locals m ns ms dx qa ba od (rs' ++ [(alo, ahi, blo, bhi)]) bs h₃ → Q' .next h₃) → T prog w A (execs ((ifBody (stN quB 2)).drop 2) env) h₆ Q' := fun c _ q' => third false (fun _ => c) l₁ (by simpa using hr₆) hm₆ H₆ q'
  refine T.execs_cons (T.If (t_isTrue_and (T.isTrue_Compare ?_)))
  walk_at "nm"
  walk_at "nm"
  refine T.lt (T.truthy_bool ?_)
  apply ite_cases <;> intro _
  case isFalse z =>
    have z : ¬ (alo : Int) < i := fun q => z (decide_eq_true q)
    exact T.execs_nil (no (.inl (by (first | lia | omega))) fun _ z => T.execs_nil (qn _ z))
  refine t_isTrue_and (T.isTrue_Compare ?_)
  walk_at "nm"
  walk_at "nm"
  refine T.lt (T.truthy_bool ?_)
  apply ite_cases <;> intro _
  case isFalse z =>
    have z : ¬ (blo : Int) < j := fun q => z (decide_eq_true q)
    exact T.execs_nil (no (.inr (by (first | lia | omega))) fun _ z => T.execs_nil (qn _ z))
  refine t_isTrue_and0 ?_
  refine T.execs_cons (T.Expr (T.Call_method ?_) e.inter)
  walk_at "nm"
  have gq₇ : h₆.get? qa = some oq₁ := H₆.get (by first | walk_at "mem" | simp)
  refine t_getMethodB gq₇ l₁.cls.1 l₁.cls.2 PySem.F.plainAttrs_list PySem.F.slot_list_append PySem.F.type_list_append ?_
  refine T.callWith ?_ rfl
  refine t_Tuple ?_ rfl
  walk_at "nm"
  walk_at "nm"
  walk_at "nm"
  walk_at "nm"
  refine ⟨by show 4 ≤ sizeLine; decide, fun ta h₈ ot s₈ n₈ g₈ l₈ => ⟨Keeps.builtin, ?_⟩⟩
  have H₈ := H₆.add s₈ n₈ g₈
  have gq₈ : h₈.get? qa = some oq₁ := H₈.get (by first | walk_at "mem" | simp)
  refine t_append gq₈ l₁ (by simp at hz; rw [sizeLine_eq]; (first | lia | omega)) fun h₉ oq₉ s₉ g₉ l₉ => ⟨(fun b q => by cases q), ?_⟩
  have H₉ := (H₈.upd (o' := oq₉) 2 (d := qa) (o := oq₁) (by first | walk_at "mem" | simp) s₉ g₉).perm (l' := (dx, od) :: (qa, oq₉) :: (ba, ob₆) :: (ta, ot) :: (y, matchObj da [.int i u1, .int j u2, .int k u3]) :: fam) ((List.Perm.swap _ _ _).trans (.cons _ ((List.Perm.swap _ _ _).trans (.cons _ (List.Perm.swap _ _ _)))))
  refine T.execs_nil (third true (fun c => by cases c) l₉ ?_ (hm₆.mono (fun p hp => .tail _ hp)) H₉ fun _ z => T.execs_nil (qn _ z))
  exact (hr₆.mono (fun p hp => .tail _ hp)).snoc (r := (alo, i, blo, j)) (.head _) l₈
end
end Mine

end
section
open PySem PySem.W PyProof.Rows PySem.Calls
set_option Elab.async false
set_option linter.unusedVariables false
set_option maxRecDepth 100000
set_option maxHeartbeats 4000000
namespace Mine
section
variable {prog : Program} {w : World} {A : Around} {E : Value → Shared → Prop} {s : Shared} {h h' h₀ : Heap}
noncomputable def mapObj (tup : Addr) (f : Value) : Obj := { cls := .type "map", data := .fields #[.ref tup, f] }
theorem mro_map : mroOf (.type "map") = pure [.type "map", .type "object"] := by rw [mroOf_type]; kernel_rfl
theorem lookup_map_new : typeLookup (.type "map") "__new__" = pure (some (.builtin "map.__new__")) := by rw [typeLookup_type, builtinLookup_eq_fast]; kernel_rfl
theorem slot_map_init : Slot "map" "__init__" "object.__init__" :=
  .of (owner := "object") (n := "__init__") (by rw [typeLookup_type, builtinLookup_eq_fast]; kernel_rfl) (by decide +kernel) (by decide +kernel) (by decide +kernel) (by first | exact .inl (by decide +kernel) | exact .inr (by decide +kernel)) (by rw [isSubtype_type]; kernel_rfl)
theorem slot_map_next : Slot "map" "__next__" "map.__next__" :=
  .of (owner := "map") (n := "__next__") (by rw [typeLookup_type, builtinLookup_eq_fast]; kernel_rfl) (by decide +kernel) (by decide +kernel) (by decide +kernel) (by first | exact .inl (by decide +kernel) | exact .inr (by decide +kernel)) (by rw [isSubtype_type]; kernel_rfl)
theorem slot_map_iter : Slot "map" "__iter__" "map.__iter__" :=
  .of (owner := "map") (n := "__iter__") (by rw [typeLookup_type, builtinLookup_eq_fast]; kernel_rfl) (by decide +kernel) (by decide +kernel) (by decide +kernel) (by first | exact .inl (by decide +kernel) | exact .inr (by decide +kernel)) (by rw [isSubtype_type]; kernel_rfl)
theorem entry_map_iter : entryFor table "map.__iter__" = some Builtin.«dict_keyiterator.__iter__» :=
  entryFor_alias (id' := "dict_keyiterator.__iter__") (by kernel_rfl) (by decide +kernel) (by decide +kernel) (by kernel_rfl)
theorem called_map : TypeCalled "map" "map.__new__" "object.__init__" :=
  ⟨by decide +kernel, by decide +kernel, ⟨_, _, mro_map⟩, madeBy_type mro_map lookup_map_new (by decide +kernel), by decide +kernel, by rw [isSubtype_type]; kernel_rfl, slot_map_init⟩
theorem typeCall_map (a b : Value) : checkTypeCall "map" ⟨[a, b], []⟩ = pure () := by kernel_rfl
theorem newCall_map (a b : Value) : checkBuiltinCall "map.__new__" ⟨[.type "map", a, b], []⟩ = pure () := by kernel_rfl
theorem entry_map_new : entryFor table "map.__new__" = some Builtin.«map.__new__» := entryFor_of_tree (by kernel_rfl)
theorem entry_map_next : entryFor table "map.__next__" = some Builtin.«map.__next__» := entryFor_of_tree (by kernel_rfl)
theorem oi_args3 (a b c : Value) : argsOk "object.__init__" ⟨[a, b, c], []⟩ := by unfold argsOk; kernel_rfl
theorem args_map_next (a : Value) : argsOk "map.__next__" ⟨[a], []⟩ := by unfold argsOk; kernel_rfl
end
end Mine

end
section
open PySem PySem.W PyProof.Rows PySem.Calls
set_option Elab.async false
set_option linter.unusedVariables false
set_option maxRecDepth 100000
set_option maxHeartbeats 4000000
namespace Mine
section
variable {prog : Program} {w : World} {A : Around} {E : Value → Shared → Prop} {s : Shared} {h h' h₀ : Heap}
noncomputable def lit (l : Addr) (i : Nat) : Obj := { cls := .type "list_iterator", data := .fields #[.ref l, .int i 0] }
noncomputable def tup1 (v : Value) : Obj := { cls := .type "tuple", data := .seq #[v] 0 }
theorem sub_map : isSubtype (.type "map") (.type "map") = pure true := by rw [isSubtype_type]; kernel_rfl
theorem meets_map_new (f : Value) (na : Addr) (items : Array Value) : Meets (Builtin.«map.__new__» ⟨[.type "map", f, .ref na], []⟩) (fun _ R s => s.heap.IsList na items ∧
    R (.ok (.ret (.ref (s.heap.objs.size + 1 + 1)))) { s with heap := ((s.heap.push (lit na 0)).push (tup1 (.ref s.heap.objs.size))).push (mapObj (s.heap.objs.size + 1) f) }) := .of_wp fun prog w A R s hs => by
  obtain ⟨hp, g, d, tk, os⟩ := s
  obtain ⟨hl, hs⟩ := hs
  have hsub : Looks (model prog w) hp (isSubtype (.type "map") (.type "map")) true := Looks.of_pure sub_map
  unfold Builtin.«map.__new__»
  repeat (first | simp only [Bool.false_eq_true, if_false, Bool.not_true] | (with_reducible refine wpAny_pyIter_list hl ?_) | lk)
  refine ⟨_, rfl, ?_⟩
  rw [Heap.size_push, Heap.size_push]
  exact hs
theorem t_map {na : Addr} {f : Value} {items : Array Value} {Q : Value → Heap → Prop} (hl : h.IsList na items)
    (q : ∀ h' mp tup it, Sub [] h h' → h.get? mp = none → h.get? tup = none → h.get? it = none → mp ≠ tup → mp ≠ it → tup ≠ it → h'.get? mp = some (mapObj tup f) → h'.get? tup = some (tup1 (.ref it)) → h'.IsListIter it na 0 → Q (.ref mp) h') : T prog w A (call (.type "map") [f, .ref na]) h Q := fun s es => by
  subst es
  have no : ∀ k, s.heap.get? (s.heap.objs.size + k) = none := fun k => by
    cases e : s.heap.get? (s.heap.objs.size + k) with
    | none => rfl
    | some o => exact absurd (Heap.lt_size e) (Nat.not_lt.mpr (Nat.le_add_right _ _))
  have g1 : (s.heap.push (lit na 0)).get? s.heap.objs.size = some (lit na 0) := Heap.get?_push_size _ rfl
  have g2 : ((s.heap.push (lit na 0)).push (tup1 (.ref s.heap.objs.size))).get? (s.heap.objs.size + 1) = some (tup1 (.ref s.heap.objs.size)) := by
    have := Heap.get?_push_size (s.heap.push (lit na 0)) (o := tup1 (.ref s.heap.objs.size)) rfl
    rwa [Heap.size_push] at this
  have g3 : (((s.heap.push (lit na 0)).push (tup1 (.ref s.heap.objs.size))).push (mapObj (s.heap.objs.size + 1) f)).get? (s.heap.objs.size + 1 + 1) = some (mapObj (s.heap.objs.size + 1) f) := by
    have := Heap.get?_push_size ((s.heap.push (lit na 0)).push (tup1 (.ref s.heap.objs.size))) (o := mapObj (s.heap.objs.size + 1) f) rfl
    rwa [Heap.size_push, Heap.size_push] at this
  refine callType_new (T := "map") (newId := "map.__new__") (Bn := Builtin.«map.__new__») called_map (by decide) (typeCall_map _ _) (newCall_map _ _) (fun obj => oi_args3 obj _ _) entry_map_new (meets_map_new f na items) ⟨hl, ⟨_, g3, rfl⟩, ?_⟩
  refine ⟨_, s.toks, rfl, q _ _ (s.heap.objs.size + 1) s.heap.objs.size (fun b o _ e => Heap.get?_push_of_some _ (Heap.get?_push_of_some _ (Heap.get?_push_of_some _ e))) (no 2) (no 1) (no 0) (Nat.succ_ne_self _) (fun q => by have q : s.heap.objs.size + 1 + 1 = s.heap.objs.size := q; (first | lia | omega)) (Nat.succ_ne_self _) g3 (Heap.get?_push_of_some _ g2) ⟨_, Heap.get?_push_of_some _ (Heap.get?_push_of_some _ g1), rfl, rfl⟩⟩
theorem nextOf_item {it l : Addr} {i : Nat} {items : Array Value} {v : Value} {Q : Value → Shared → Prop} (hit : s.heap.IsListIter it l i) (hl : s.heap.IsList l items) (hx : items[i]? = some v)
    (q : ∀ h', h'.IsListIter it l (i + 1) → Heap.SameBut it s.heap h' → Q v { s with heap := h' }) : wpAny (model prog w) A (Builtin.SmallTypes.nextOf (.ref it)) Q E s := by
  obtain ⟨o, ho, hc, hd⟩ := id hit
  obtain ⟨ol, hol, _, nl, hdl⟩ := hl
  unfold Builtin.SmallTypes.nextOf
  refine wpAny_bind (wpAny_callSpecial?_slot (name := Str.ofString "__next__") hit.typeIs slot_listiter_next (wpAny_call_entry slot_listiter_next hit.typeIs entry_listiter_next ?_ (args_listiter_next _)))
  show wpAny _ _ (field (.ref it) 0 >>= _) _ _ s
  refine wpAny_bind (wpAny_field ho hd (x := .ref l) rfl ?_)
  show wpAny _ _ (if (Value.ref l == Value.none) = true then _ else _) _ _ s
  rw [if_neg (show ¬ ((Value.ref l == Value.none) = true) from Bool.false_ne_true)]
  show wpAny _ _ (field (.ref it) 1 >>= _) _ _ s
  refine wpAny_bind (wpAny_field ho hd (x := .int i 0) rfl ?_)
  show wpAny _ _ (seqItems? (.ref l) >>= _) _ _ s
  refine wpAny_bind (wpAny_seqItems hol hdl ?_)
  simp only [Int.toNat_natCast, hx]
  refine wpAny_bind (wpAny_setField ho hd (by first | walk_at "mem" | simp) (wpAny_pure ⟨v, rfl, wpAny_pure (q _ ?_ (Heap.SameBut.update ..))⟩))
  exact ⟨_, Heap.get?_update_self _ ho (Obj.isFreed_of_fields (Obj.data_mapFields hd _)), (Obj.cls_mapFields ..).trans hc, by rw [Obj.data_mapFields hd]; simp [rawInt]⟩
theorem nextOf_end {it l : Addr} {i : Nat} {items : Array Value} {Q : Value → Shared → Prop} (hh : A.handled = none) (hit : s.heap.IsListIter it l i) (hl : s.heap.IsList l items) (hx : items[i]? = none)
    (q : ∀ h' e oe, Heap.ExtBut it s.heap h' → h'.get? e = some oe → oe.cls = .type "StopIteration" → E (.ref e) { s with heap := h' }) : wpAny (model prog w) A (Builtin.SmallTypes.nextOf (.ref it)) Q E s := by
  obtain ⟨o, ho, hc, hd⟩ := id hit
  obtain ⟨ol, hol, _, nl, hdl⟩ := hl
  unfold Builtin.SmallTypes.nextOf
  refine wpAny_bind (wpAny_callSpecial?_slot (name := Str.ofString "__next__") hit.typeIs slot_listiter_next (wpAny_call_entry slot_listiter_next hit.typeIs entry_listiter_next ?_ (args_listiter_next _)))
  show wpAny _ _ (field (.ref it) 0 >>= _) _ _ s
  refine wpAny_bind (wpAny_field ho hd (x := .ref l) rfl ?_)
  show wpAny _ _ (if (Value.ref l == Value.none) = true then _ else _) _ _ s
  rw [if_neg (show ¬ ((Value.ref l == Value.none) = true) from Bool.false_ne_true)]
  show wpAny _ _ (field (.ref it) 1 >>= _) _ _ s
  refine wpAny_bind (wpAny_field ho hd (x := .int i 0) rfl ?_)
  show wpAny _ _ (seqItems? (.ref l) >>= _) _ _ s
  refine wpAny_bind (wpAny_seqItems hol hdl ?_)
  simp only [Int.toNat_natCast, hx]
  refine wpAny_bind (wpAny_rule (wpAny_bind (wpAny_setField ho hd (by first | walk_at "mem" | simp) ?_)))
  show wpAny _ _ (newExc (.type "StopIteration") [] >>= _) _ _ _
  refine wpAny_bind ?_
  simp only [newExc, newTuple]
  refine wpAny_bind (wpAny_newObj_type ?_ (by size_fits))
  refine wpAny_bind (m := firstArgMember _ _) (wpAny_of_eq (a := Value.none) (by first | rfl | (simp only [firstArgMember]; rfl)) ?_)
  refine wpAny_newObj_type ?_ (by size_fits)
  simp only [raiseNew]
  refine wpAny_bind (wpAny_handled ?_)
  rw [show A.in1.handled = none from hh]
  refine wpAny_bind (wpAny_pure (wpAny_throw ?_))
  exact q _ _ _ (((Heap.SameBut.update ..).extBut.push _).push _) (Heap.get?_push_size _ rfl) rfl
theorem t_map_item {mp tup it na : Addr} {i : Nat} {f v : Value} {items : Array Value} {Q : Option Value → Heap → Prop} (hm : h.get? mp = some (mapObj tup f)) (ht : h.get? tup = some (tup1 (.ref it))) (hit : h.IsListIter it na i) (hl : h.IsList na items) (hx : items[i]? = some v) (ne : mp ≠ it)
    (hf : ∀ h₁, h₁.IsListIter it na (i + 1) → Heap.SameBut it h h₁ → T prog w A.in1 (call f [v]) h₁ fun r h₂ => Q (some r) h₂) : T prog w A (pyNext (.ref mp)) h Q := fun s es => by
  subst es
  have hT : s.TypeIs (.ref mp) "map" := ⟨_, hm, rfl⟩
  unfold pyNext
  refine wpAny_bind (wpAny_attempt (wpAny_callSpecial?_slot (name := Str.ofString "__next__") hT slot_map_next (wpAny_call_entry slot_map_next hT entry_map_next ?_ (args_map_next _))))
  obtain ⟨hp, g, d, tk, os⟩ := s
  dsimp only at hm ht hit hl hf
  have L0 : Looks (model prog w) hp (seqItems? (.ref tup)) (some #[.ref it]) := (Looks.ld (part := none) ht).andThen .now
  unfold Builtin.«map.__next__»
  repeat (first | ((with_reducible show wpAny _ _ (Builtin.SmallTypes.nextOf _) _ _ _); (show wpAny _ _ (Builtin.SmallTypes.nextOf (Value.ref it)) _ _ _); refine nextOf_item (s := ⟨hp, g, d, tk, os⟩) hit hl hx (fun h₁ hit₁ hs₁ => ?_)) | (with_reducible show wpAny _ _ (call _ _) _ _ _; fail) | lk)
  have hm₁ : h₁.get? mp = some (mapObj tup f) := (hs₁.2 mp ne).trans hm
  refine nd_load hm₁ ?_
  refine wpAny_pure ?_
  show wpAny _ _ (pure #[Value.ref tup, f]) _ _ _
  refine wpAny_pure ?_
  show wpAny _ _ (pure f) _ _ _
  refine wpAny_pure (wpAny_bind (wpAny_holding ?_))
  show wpAny _ _ (call f [v]) _ _ _
  refine T.elim (s := ⟨h₁, g, d, tk, os⟩) (hf h₁ hit₁ hs₁) fun r h₂ tk₂ q => ?_
  exact wpAny_bind (wpAny_letGo (wpAny_pure ⟨_, rfl, wpAny_pure ⟨h₂, tk₂, rfl, q⟩⟩))
theorem t_map_end {mp tup it na : Addr} {i : Nat} {f : Value} {items : Array Value} {Q : Option Value → Heap → Prop} (hh : A.handled = none) (hm : h.get? mp = some (mapObj tup f)) (ht : h.get? tup = some (tup1 (.ref it))) (hit : h.IsListIter it na i) (hl : h.IsList na items) (hx : items[i]? = none)
    (q : ∀ h', Sub [it] h h' → Q none h') : T prog w A (pyNext (.ref mp)) h Q := fun s es => by
  subst es
  have hT : s.TypeIs (.ref mp) "map" := ⟨_, hm, rfl⟩
  unfold pyNext
  refine wpAny_bind (wpAny_attempt (wpAny_callSpecial?_slot (name := Str.ofString "__next__") hT slot_map_next (wpAny_call_entry slot_map_next hT entry_map_next ?_ (args_map_next _))))
  obtain ⟨hp, g, d, tk, os⟩ := s
  dsimp only at hm ht hit hl q
  have L0 : Looks (model prog w) hp (seqItems? (.ref tup)) (some #[.ref it]) := (Looks.ld (part := none) ht).andThen .now
  unfold Builtin.«map.__next__»
  repeat ((fail_if_success (with_reducible show wpAny _ _ (Builtin.SmallTypes.nextOf _) _ _ _)); lk)
  show wpAny _ _ (Builtin.SmallTypes.nextOf (Value.ref it)) _ _ _
  refine nextOf_end (s := ⟨hp, g, d, tk, os⟩) hh hit hl hx (fun h₁ e oe hs₁ ge ce => ?_)
  have hTe : (⟨h₁, g, d, tk, os⟩ : Shared).TypeIs (.ref e) "StopIteration" := ⟨_, ge, ce⟩
  refine wpAny_bind (wpAny_isInstance (T := "StopIteration") (b := true) hTe isSubtype_stop ?_)
  exact wpAny_pure ⟨h₁, tk, rfl, q h₁ (Sub.ext hs₁)⟩
theorem lh_no_len : typeLookup (.type "map") "__len__" = pure none := by rw [typeLookup_type, builtinLookup_eq_fast]; kernel_rfl
theorem lh_no_hint : typeLookup (.type "map") "__length_hint__" = pure none := by rw [typeLookup_type, builtinLookup_eq_fast]; kernel_rfl
theorem args_map_iter (a : Value) : argsOk "map.__iter__" ⟨[a], []⟩ := by unfold argsOk; kernel_rfl
theorem t_listMap {mp tup : Addr} {f : Value} {Q : Value → Heap → Prop} (hm : h.get? mp = some (mapObj tup f))
    (q : ∀ h' Ls o, Sub [] h h' → h.get? Ls = none → h'.get? Ls = some o → IsLst o [] → TC prog w A.in1 (.builtin "list.extend.loop" ⟨[.ref Ls, .ref mp, .none], []⟩) h' fun v h'' => v = .none ∧ Q (.ref Ls) h'') : T prog w A (call (.type "list") [.ref mp]) h Q := fun s es => by
  subst es
  refine callType_codes (Q₁ := fun obj s₁ => obj = .ref s.heap.objs.size ∧ s₁ = { s with heap := s.heap.push { cls := .type "list", data := .seq #[] } }) PySem.F.called_list (PySem.F.typeCall_list_1 _) PySem.F.entry_list_init (code_list_new _ ⟨rfl, rfl⟩) fun obj s₁ h₁ => ?_
  obtain ⟨rfl, rfl⟩ := h₁
  have hS : (s.heap.push { cls := .type "list", data := .seq #[] }).get? s.heap.objs.size = some { cls := .type "list", data := .seq #[] } := Heap.get?_push_size _ rfl
  refine ⟨⟨_, hS, rfl⟩, PySem.F.args_list_init_2 _ _, ?_⟩
  have hm₁ := Heap.get?_push_of_some { cls := .type "list", data := .seq #[] } hm
  have hT : ∀ hp : Heap, hp.get? mp = some (mapObj tup f) → ({ s with heap := hp } : Shared).TypeIs (.ref mp) "map" := fun hp e => ⟨_, e, rfl⟩
  have ne : (s.heap.objs.size : Addr) ≠ mp := fun q => by
    have := Heap.lt_size hm
    rw [← q] at this; exact Nat.lt_irrefl _ this
  generalize hL : s.heap.objs.size = Ls at *
  generalize hH : s.heap.push { cls := .type "list", data := .seq #[] } = h₁ at *
  show wpAny _ _ (do let old ← Builtin.List.listItems (.ref Ls); Builtin.List.listUpdate (.ref Ls) (fun _ => #[]); letGo old.toList.reverse; Builtin.List.listExtendWith (.ref Ls) (.ref mp) .none) _ _ _
  refine wpAny_bind (listItems_at hS rfl ?_)
  refine wpAny_bind (listUpdate_at hS rfl ?_ (Nat.zero_le _) (Nat.zero_le _))
  have hS₂ := get?_update_seq hS (fun _ => (#[] : Array Value))
  have o2 : Sub [Ls] h₁ (h₁.update Ls (Obj.mapSeq fun _ => (#[] : Array Value))) := Sub.same (Heap.SameBut.update ..)
  have hm₂ := o2 _ _ (by simpa using ne.symm) hm₁
  generalize h₁.update Ls (Obj.mapSeq fun _ => (#[] : Array Value)) = h₂ at *
  refine wpAny_bind (wpAny_letGo ?_)
  unfold Builtin.List.listExtendWith
  refine wpAny_bind (wpAny_typeOf (hT _ hm₂) ?_)
  have e1 : Builtin.List.listSameRef (.ref Ls) (.ref mp) = false := by simp [Builtin.List.listSameRef, ne]
  have e2 : (Value.type "map" == Value.type "list") = false := by decide
  have e3 : (Value.type "map" == Value.type "tuple") = false := by decide
  simp only [e1, e2, e3, Bool.or_false, Bool.false_eq_true, if_false]
  refine wpAny_bind (wpAny_pyIter_slot (hT _ hm₂) slot_map_iter (wpAny_call_entry slot_map_iter (hT _ hm₂) entry_map_iter ?_ (args_map_iter _)))
  show wpAny _ _ (ret (.ref mp)) _ _ _
  refine wpAny_pure ⟨_, rfl, "map", _, hT _ hm₂, slot_map_next.lookup, ?_⟩
  refine wpAny_bind (wpAny_holding ?_)
  unfold Builtin.List.listLengthHint
  refine wpAny_bind (wpAny_specialOf (hT _ hm₂) lh_no_len ?_)
  show wpAny _ _ (specialOf (Value.ref mp) (Str.ofString "__length_hint__") >>= _) _ _ _
  refine wpAny_bind (wpAny_specialOf (hT _ hm₂) lh_no_hint ?_)
  refine wpAny_pure ?_
  show wpAny _ _ (rule "list.extend.makes-room" >>= fun _ => Builtin.List.listTouch (.ref Ls) >>= fun _ => again (.builtin "list.extend.loop" ⟨[.ref Ls, .ref mp, .none], []⟩)) _ _ _
  refine wpAny_bind (wpAny_rule (wpAny_bind ?_))
  show wpAny _ _ (updateSeq Ls (·.push .none) >>= fun _ => updateSeq Ls (·.pop)) _ _ _
  refine wpAny_bind (wpAny_updateSeq hS₂ rfl ?_)
  have hS₃ := get?_update_seq hS₂ (·.push Value.none)
  have o3 : Sub [Ls] h₂ (h₂.update Ls (Obj.mapSeq (·.push Value.none))) := Sub.same (Heap.SameBut.update ..)
  generalize h₂.update Ls (Obj.mapSeq (·.push Value.none)) = h₃ at *
  refine wpAny_updateSeq hS₃ rfl ?_
  have hS₄ := get?_update_seq hS₃ (·.pop)
  have o4 : Sub [Ls] h₃ (h₃.update Ls (Obj.mapSeq (·.pop))) := Sub.same (Heap.SameBut.update ..)
  generalize h₃.update Ls (Obj.mapSeq (·.pop)) = h₄ at *
  have nL : s.heap.get? Ls = none := by rw [← hL]; exact get_size_none _
  have sub : Sub [] s.heap h₄ := fun b o _ eb => by
    have nb : b ∉ [Ls] := fun z => by
      obtain rfl : b = Ls := by simpa using z
      rw [nL] at eb; cases eb
    refine o4 b o nb (o3 b o nb (o2 b o nb ?_))
    rw [← hH]; exact Heap.get?_push_of_some _ eb
  refine wpAny_pure ⟨plainId_quiet PySem.F.plain_extend_loop _, ?_⟩
  refine codeAny_mono (q h₄ Ls _ sub nL hS₄ ⟨_, rfl⟩ { s with heap := h₄ } rfl) ?_
  rintro r s' ⟨v, h', tk, rfl, rfl, rfl, q'⟩
  exact ⟨rfl, h', tk, rfl, q'⟩
end
end Mine

end
section
open PySem PySem.W PyProof.Rows PySem.Calls
set_option Elab.async false
set_option linter.unusedVariables false
set_option maxRecDepth 100000
set_option maxHeartbeats 4000000
namespace Mine
section
variable {prog : Program} {w : World} {A : Around} {h h' h₀ : Heap}
theorem len_find (P : Params) : findIn (frag P) (.ref aMt) "__len__" = some (some (.builtin "tuple.__len__")) := by kernel_rfl!
theorem len_kind : builtinKind "tuple.__len__" = some .slot := by kernel_rfl
theorem len_split : splitId "tuple.__len__" = some ("tuple", "__len__") := by decide +kernel
theorem t_lenM {x da : Addr} {vs : List Value} {Q : Value → Heap → Prop} (X : (frag w.params).In h) (hx : h.get? x = some (matchObj da vs)) (hz : vs.length < 1000) (q : ∀ t, Q (.int vs.length t) h) : T prog w A (call (.builtin "len") [.ref x]) h Q := fun s es => by
  subst es
  have tx : Looks (model prog w) s.heap (typeOf (.ref x)) (.ref aMt) := (Looks.ld hx).andThen .now
  have ix : Looks (model prog w) s.heap (isInstance (.ref x) (.type "tuple")) true := tx.andThen (looks_mroIn X (mro_tuple w.params))
  have sx : Looks (model prog w) s.heap (specialOf (.ref x) "__len__") (some (.builtin "tuple.__len__")) := tx.andThen (looks_findIn X (len_find w.params))
  have hb := PySem.F.slot_tuple_len.bind (.ref x)
  refine call_function_entry kind_len plain_len entry_len (args_len1 _) ?_
  unfold Builtin.«len»
  refine wpAny_bind (m := oneArg "len" _) (wpAny_pure ?_)
  refine wpAny_bind (m := callSpecial? (.ref x) (Str.ofString "__len__")) ?_
  unfold callSpecial?
  refine wpAny_bind (sx.here ?_)
  refine wpAny_holding (wpAny_bind (wpAny_of_eq hb (wpAny_bind ?_)))
  refine wpAny_call (codeAny_call_builtin PySem.F.slot_tuple_len.plain PySem.F.entry_tuple_len (@check_slot (model prog w) _ _ _ "tuple.__len__" "tuple" "__len__" (.ref x) [] [] _ len_kind len_split ix (PySem.F.args_tuple_len_1 _) ?_))
  have L0 : Looks (model prog w) s.heap (seqItems? (.ref x)) (some vs.toArray) := (Looks.ld (part := none) hx).andThen .now
  show wpAny _ _ (Builtin.Tuple.tupleItemsOf (.ref x) >>= fun xs => retInt xs.size) _ _ s
  unfold Builtin.Tuple.tupleItemsOf
  refine wpAny_bind (wpAny_bind (L0.here (wpAny_pure ?_)))
  refine wpAny_bind (wpAny_mkInt (wpAny_pure (wpAny_pure ?_)))
  refine wpAny_bind (wpAny_holding (wpAny_pure ?_))
  refine wpAny_bind (wpAny_letGo ?_)
  have sz : (vs.toArray.size : Int) = vs.length := by simp
  show wpAny _ _ (if ((vs.toArray.size : Nat) : Int) < 0 then _ else _) _ _ _
  rw [if_neg (by (first | lia | omega))]
  show wpAny _ _ (if ((vs.toArray.size : Nat) : Int) ≥ 2 ^ 63 then _ else _) _ _ _
  rw [if_neg (by (first | lia | omega)), sz]
  exact wpAny_bind (wpAny_mkInt (wpAny_pure ⟨_, rfl, _, _, rfl, q _⟩))
theorem fn_make (P : Params) : FnOk (frag P) at_Match_make fdOf_Match_make (bodyN (stN (bodyN (stN pwBody 3)) 5)) :=
  ⟨⟨obOf_Match_make P, by kernel_rfl!, rfl⟩, by kernel_rfl!, by kernel_rfl!, by kernel_rfl!, by kernel_rfl!, by kernel_rfl!, by kernel_rfl!, by kernel_rfl!, by kernel_rfl!⟩
noncomputable abbrev makeN : List Str := [(Str.ofString "cls"), (Str.ofString "iterable"), (Str.ofString "result")]
theorem match_make {t : Addr} {o : Obj} {a b c : Value} {Q : Value → Heap → Prop} (G : Gr (frag w.params) h) (hroom : A.depth < recursionLimit) (ho : h.get? t = some o) (ht : IsTupO o [a, b, c])
    (q : ∀ (h' : Heap) x da, Sub [] h h' → h.get? x = none → h'.get? x = some (matchObj da [a, b, c]) → Q (.ref x) h') : TC prog w A (.call (.ref at_Match_make) ⟨[.ref aMt, .ref t], []⟩) h Q := by
  refine TC.def (binds := [((Str.ofString "cls"), .ref aMt), ((Str.ofString "iterable"), .ref t)]) [] (fn_make w.params) G hroom (by kernel_rfl!) (by kernel_rfl!) (by first | walk_at "mem" | simp) (by first | walk_at "mem" | simp) fun h₁ L H => ?_
  have e := (fn_make w.params).ok L
  have hL : Loc (callEnv fdOf_Match_make L at_Match_make) makeN := Loc.mk' (by kernel_rfl!)
  have k5 : (callEnv fdOf_Match_make L at_Match_make).kindOf (Str.ofString "tuple") = some .globalImplicit := by kernel_rfl!
  have k6 : (callEnv fdOf_Match_make L at_Match_make).kindOf (Str.ofString "len") = some .globalImplicit := by kernel_rfl!
  replace H : S h [] L (upd (upd (fun _ => none) (Str.ofString "cls") (.ref aMt)) (Str.ofString "iterable") (.ref t)) [] h₁ := H
  generalize henv : callEnv fdOf_Match_make L at_Match_make = env at *
  have hLo : L = env.locals := by rw [← henv]; rfl
  subst hLo
  clear henv
  have GG : ∀ {m l h₂}, S h [] env.locals m l h₂ → Gr (frag w.params) h₂ := fun H => H.gr G
  refine T.execs_cons (T.Expr (T.cStr fun t => ⟨(fun b q => by cases q), ?_⟩) e.inter)
  refine T.execs_cons (T.Assign_Name (T.Call_method ?_))
  refine T.builtin (v := .type "tuple") e (GG H) (by kernel_rfl!) (by kernel_rfl!) ?_ k5 (by decide +kernel) (by decide +kernel)
  refine t_tupleNew H (GG H).k ?_
  refine T.callWith ?_ rfl
  walk_at "nm"
  walk_at "nm"
  refine ⟨Keeps.builtin, ?_⟩
  refine t_tn (GG H).k (H.old ho (by first | walk_at "mem" | simp)) ht (by show 3 ≤ sizeLine; decide) fun h₃ x da s₃ n₃ g₃ => ?_
  have H₃ := H.add s₃ n₃ g₃
  refine T.storeName e H₃ (fun h₄ H₄ => ?_) (hL.of (by first | walk_at "mem" | simp))
  refine T.execs_cons (T.If (T.isTrue_Compare (T.Call_Name ?_)))
  refine T.builtin (v := .builtin "len") e (GG H₄) (by kernel_rfl!) (by kernel_rfl!) ?_ k6 (by decide +kernel) (by decide +kernel)
  refine T.callWith ?_ rfl
  walk_at "nm"
  have g4 : h₄.get? x = some (matchObj da [a, b, c]) := H₄.get (by first | walk_at "mem" | simp)
  refine ⟨Keeps.builtin, t_lenM (GG H₄).k g4 (by show 3 < 1000; decide) fun u => ?_⟩
  refine T.cInt fun u2 => T.neI (T.truthy_bool ?_)
  rw [if_neg (by show ¬ ((3 : Int) != 3) = true; decide)]
  refine T.execs_nil (T.execs_cons (T.Return ?_))
  walk_at "nm"
  exact q h₄ x da H₄.base (H.fresh n₃).1 g4
theorem reads_cm (P : Params) : findCls (frag P) (.ref aMt) (.type "type") (Str.ofString "_make") = some (.get (.builtin "classmethod.__get__") (.ref 91) .none (.ref aMt)) := by kernel_rfl!
theorem rec_cm (P : Params) : recIn (frag P) 91 "classmethod" = some [.ref at_Match_make, .bool false] := by kernel_rfl!
inductive TupsAre (h : Heap) : List Value → List (Nat × Nat × Nat) → Prop
  | nil : TupsAre h [] []
  | cons {t : Addr} {o : Obj} {i j k : Nat} {t1 t2 t3 : Tok} {vs : List Value} {bs : List (Nat × Nat × Nat)} : h.get? t = some o → IsTupO o [.int i t1, .int j t2, .int k t3] → TupsAre h vs bs → TupsAre h (.ref t :: vs) ((i, j, k) :: bs)
theorem TupsAre.length {vs : List Value} {bs : List (Nat × Nat × Nat)} (x : TupsAre h vs bs) : vs.length = bs.length := by
  induction x with
  | nil => rfl
  | cons _ _ _ ih => simp [ih]
theorem TupsAre.get {vs : List Value} {bs : List (Nat × Nat × Nat)} (x : TupsAre h vs bs) : ∀ {n : Nat}, n < vs.length → ∃ t o i j k t1 t2 t3, vs[n]? = some (.ref t) ∧ bs[n]? = some (i, j, k) ∧ h.get? t = some o ∧ IsTupO o [.int (i : Nat) t1, .int (j : Nat) t2, .int (k : Nat) t3] := by
  induction x with
  | nil => intro n hn; simp at hn
  | cons hx ho r ih =>
    intro n hn
    cases n with
    | zero => exact ⟨_, _, _, _, _, _, _, _, rfl, rfl, hx, ho⟩
    | succ n =>
      obtain ⟨t, o, i, j, k, t1, t2, t3, e1, e2, e3, e4⟩ := ih (n := n) (by simpa using hn)
      exact ⟨t, o, i, j, k, t1, t2, t3, by simpa using e1, by simpa using e2, e3, e4⟩
theorem iter_not {it na b : Addr} {i : Nat} {o : Obj} (hit : h.IsListIter it na i) (hb : h.get? b = some o) (hc : o.cls ≠ .type "list_iterator") : b ≠ it := fun q => by
  obtain ⟨oi, g, c, _⟩ := hit
  rw [q, g] at hb
  exact hc ((Option.some.inj hb) ▸ c)
theorem t_makeAll {mp tup it na qm : Addr} {vs : List Value} {cs : List (Nat × Nat × Nat)} {Q : Value → Heap → Prop} (hh : A.handled = none) (hroom : A.depth < recursionLimit) (hG : ∀ h₁, Sub [it] h h₁ → Gr (frag w.params) h₁) (hm : h.get? mp = some (mapObj tup (.ref qm))) (ht : h.get? tup = some (tup1 (.ref it))) (hit : h.IsListIter it na 0)
    (hq : h.get? qm = some (methodObj (.ref at_Match_make) (.ref aMt))) (hl : h.IsList na vs.toArray) (hT : TupsAre h vs cs) (hz : vs.length < 100000)
    (q : ∀ h' Ls o vs', Sub [it] h h' → h.get? Ls = none → h'.get? Ls = some o → IsLst o vs' → MtsAre h' vs' cs → Q (.ref Ls) h') : T prog w A (call (.type "list") [.ref mp]) h Q := by
  have nm : mp ≠ it := iter_not hit hm (by simp [mapObj])
  have nt : tup ≠ it := iter_not hit ht (by simp [tup1])
  have nq : qm ≠ it := iter_not hit hq (by first | walk_at "mem" | simp)
  obtain ⟨ol, gl, cl, nl, dl⟩ := id hl
  have nn : na ≠ it := iter_not hit gl (by rw [cl]; simp)
  have hlen := hT.length
  refine t_listMap hm fun h₁ Ls o₁ s₁ n₁ g₁ l₁ => ?_
  have ni : Ls ≠ it := fun z => by obtain ⟨oi, g, _⟩ := hit; rw [← z, n₁] at g; cases g
  refine tc_extend (fun i acc h₂ => acc.length = i ∧ (∃ o, h₂.get? Ls = some o ∧ IsLst o acc) ∧ Sub [it] h h₂ ∧ h₂.IsListIter it na i ∧ MtsAre h₂ acc (cs.take i)) vs.length (by (first | lia | omega)) (fun i acc h₂ z => ⟨z.1, z.2.1⟩) ?_ ?_ vs.length 0 [] h₁ (by (first | lia | omega)) ?_
  · rintro i acc h₂ hi ⟨z1, ⟨o₂, g₂, l₂⟩, z3, z4, z5⟩
    obtain ⟨t, o, a, b, c, t1, t2, t3, e1, e2, e3, e4⟩ := hT.get hi
    refine t_map_item (items := vs.toArray) (z3 _ _ (by simpa using nm) hm) (z3 _ _ (by simpa using nt) ht) z4 (hl.at fun o eo => z3 _ _ (by simpa using nn) eo) (v := .ref t) (by simpa using e1) nm fun h₃ hit₃ hs₃ => ?_
    have z3' : Sub [it] h h₃ := z3.trans (Sub.same hs₃)
    have nto : t ≠ it := iter_not hit e3 (by obtain ⟨_, rfl⟩ := e4; simp)
    refine T.call fun s es => ?_
    subst es
    refine method_call (z3' _ _ (by simpa using nq) hq) ?_
    refine match_make (hG _ z3') (by simpa using hroom) (z3' _ _ (by simpa using nto) e3) e4 (fun h₄ x da s₄ n₄ g₄ => ?_) s rfl
    have gL₃ : s.heap.get? Ls = some o₂ := (hs₃.2 Ls ni).trans g₂
    refine ⟨.ref x, o₂, rfl, s₄ _ _ (by first | walk_at "mem" | simp) gL₃, l₂, fun h₅ o₅ s₅ g₅ l₅ => ⟨by simp [z1], ⟨o₅, g₅, l₅⟩, fun b ob nb eb => ?_, ?_, ?_⟩⟩
    · refine s₅ b ob (fun z => ?_) (s₄ b ob (by first | walk_at "mem" | simp) (z3' b ob nb eb))
      obtain rfl : b = Ls := by simpa using z
      rw [n₁] at eb; cases eb
    · obtain ⟨oi, gi, ci⟩ := hit₃
      exact ⟨oi, s₅ _ _ (by simpa using ni.symm) (s₄ _ _ (by first | walk_at "mem" | simp) gi), ci⟩
    · have e6 : cs.take (i + 1) = cs.take i ++ [(a, b, c)] := by rw [List.take_add_one, e2]; rfl
      rw [e6]
      refine MtsAre.keep (h := h₄) ?_ fun b db us eb => s₅ _ _ (by simpa using mt_not_list (s₄ _ _ (by first | walk_at "mem" | simp) gL₃) l₂ eb) eb
      refine MtsAre.snoc ?_ g₄
      refine z5.keep fun b db us eb => s₄ _ _ (by first | walk_at "mem" | simp) ((hs₃.2 b ?_).trans eb)
      exact iter_not z4 eb (by simp [matchObj])
  · rintro acc h₂ ⟨z1, ⟨o₂, g₂, l₂⟩, z3, z4, z5⟩
    refine t_map_end (items := vs.toArray) hh (z3 _ _ (by simpa using nm) hm) (z3 _ _ (by simpa using nt) ht) z4 (hl.at fun o eo => z3 _ _ (by simpa using nn) eo) (by first | walk_at "mem" | simp) fun h₃ s₃ => ⟨rfl, rfl, ?_⟩
    refine q h₃ Ls o₂ acc (z3.trans s₃) n₁ (s₃ _ _ (by simpa using ni) g₂) l₂ ?_
    have e6 : cs.take vs.length = cs := by rw [hlen, List.take_length]
    rw [e6] at z5
    exact z5.keep fun b db us eb => s₃ _ _ (by simpa using iter_not z4 eb (by simp [matchObj])) eb
  · refine ⟨rfl, ⟨o₁, g₁, l₁⟩, fun b ob _ eb => s₁ b ob (by first | walk_at "mem" | simp) eb, ?_, by simpa using MtsAre.nil⟩
    obtain ⟨oi, gi, ci⟩ := hit
    exact ⟨oi, s₁ _ _ (by first | walk_at "mem" | simp) gi, ci⟩
end
end Mine

end
section
open PySem PySem.W PyProof.Rows PySem.Calls
set_option Elab.async false
set_option linter.unusedVariables false
set_option maxRecDepth 100000
set_option maxHeartbeats 4000000
namespace Mine
section
variable {prog : Program} {w : World} {A : Around} {h h' h₀ : Heap} {env : Env} {D : List Addr} {m : Str → Option Value} {l : List (Addr × Obj)}
theorem tf_listT {elts : List PySem.Expr} {k1 : Nat} {pt : Pos} {ax : Addr} {vs : List Value} {body : List Stmt} {Q : Flow → Heap → Prop} (hh : A.handled = none) (H : S h₀ D env.locals m l h) (hv : ∀ v ∈ vs, ∃ a, v = .ref a)
    (Inv : Nat → (Str → Option Value) → List (Addr × Obj) → Prop) (hD : ∀ i m l, Inv i m l → ∀ d ∈ D, d ∈ l.map (·.1))
    (hl : ∀ i m l h, Inv i m l → S h₀ D env.locals m l h → h.IsList ax vs.toArray) (h0 : Inv 0 m l)
    (turn : ∀ i v m₁ l₁ I o h, vs[i]? = some v → Inv i m₁ l₁ → S h₀ D env.locals m₁ (l₁ ++ [(I, o)]) h → T prog w A (assign (.Tuple elts k1 pt) env v) h fun _ h₂ => T prog w A (execs body env) h₂ fun f h₃ => match f with
      | .next | .cont => ∃ m₂ l₂, Inv (i + 1) m₂ l₂ ∧ S h₀ D env.locals m₂ (l₂ ++ [(I, o)]) h₃
      | .brk => Q .next h₃
      | .ret v => Q (.ret v) h₃)
    (done : ∀ m₁ l₁ h, Inv vs.length m₁ l₁ → S h₀ D env.locals m₁ l₁ h → Q .next h) :
    T prog w A (pyIter (.ref ax)) h fun it h₂ => TF prog w A (.forLoop (.Tuple elts k1 pt) it body [] env) h₂ Q := fun s es => by
  subst es
  refine wpAny_pyIter_list (hl 0 m l _ h0 H) ⟨_, s.toks, rfl, ?_⟩
  have HI := H.addEnd (Sub.push _ { cls := .type "list_iterator", data := .fields #[.ref ax, rawInt 0] }) (get_size_none _) (get_push_self _ _)
  refine TF.forLoop (LstI h₀ D env.locals s.heap.objs.size ax vs Inv) ?_ vs.length ⟨0, m, l, _, rfl, h0, HI, ⟨_, HI.getEnd, rfl, rfl⟩⟩
  rintro k h ⟨i, m₁, l₁, o, hk, hi, HS, hit⟩
  intro s' es'
  subst es'
  have hL := hl i m₁ l₁ _ hi (HS.dropEnd (hD _ _ _ hi))
  cases hvi : vs[i]? with
  | none =>
    have hlen : vs.length ≤ i := by simpa using hvi
    obtain rfl : i = vs.length := by (first | lia | omega)
    refine wpAny_pyNext_list_end hh hit hL (by simpa using hvi) fun h' he => ⟨h', s'.toks, rfl, ?_⟩
    exact done m₁ l₁ h' hi ((HS.dropEnd (hD _ _ _ hi)).keepBut (Sub.ext he) fun b hb => HS.ownEnd (hD _ _ _ hi) b (by simpa using hb))
  | some v =>
    refine wpAny_pyNext_list_item hit hL (x := v) (by simpa using hvi) fun h₁ hit₁ hs₁ => ⟨h₁, s'.toks, rfl, ?_⟩
    obtain ⟨o₁, ho₁, hc₁⟩ := id hit₁
    have H₁ := HS.updEnd (Sub.same hs₁) ho₁
    obtain ⟨va, rfl⟩ := hv v (List.mem_of_getElem? hvi)
    intro s₂ es₂
    subst es₂
    refine wpAny_letOwnedTupleGo_listiter hit₁ ⟨_, s₂.toks, rfl, ?_⟩
    refine (turn i _ m₁ l₁ _ _ _ hvi hi H₁).mono fun _ h₂ z => z.mono fun f h₃ z => ?_
    have fin : (∃ m₂ l₂, Inv (i + 1) m₂ l₂ ∧ S h₀ D env.locals m₂ (l₂ ++ [(s.heap.objs.size, o₁)]) h₃) → ∃ k', k' < k ∧ LstI h₀ D env.locals s.heap.objs.size ax vs Inv k' h₃ := by
      rintro ⟨m₂, l₂, i₂, H₃⟩
      have hlt : i < vs.length := by
        rcases Nat.lt_or_ge i vs.length with y | y
        · exact y
        · rw [List.getElem?_eq_none y] at hvi; cases hvi
      exact ⟨k - 1, by (first | lia | omega), i + 1, m₂, l₂, o₁, by (first | lia | omega), i₂, H₃, o₁, H₃.getEnd, hc₁⟩
    cases f with
    | next => exact fin z
    | cont => exact fin z
    | brk => exact z
    | ret v => exact z
inductive TupsIn (fam : List (Addr × Obj)) : List Value → List (Nat × Nat × Nat) → Prop
  | nil : TupsIn fam [] []
  | cons {t : Addr} {o : Obj} {i j k : Nat} {t1 t2 t3 : Tok} {vs : List Value} {bs : List (Nat × Nat × Nat)} : (t, o) ∈ fam → IsTupO o [.int i t1, .int j t2, .int k t3] → TupsIn fam vs bs → TupsIn fam (.ref t :: vs) ((i, j, k) :: bs)
variable {fam fam' : List (Addr × Obj)} {vs : List Value} {bs : List (Nat × Nat × Nat)}
theorem TupsIn.mono (x : TupsIn fam vs bs) (s : ∀ p ∈ fam, p ∈ fam') : TupsIn fam' vs bs := by
  induction x with
  | nil => exact .nil
  | cons a b _ ih => exact .cons (s _ a) b ih
theorem TupsIn.snoc {t : Addr} {o : Obj} {i j k : Nat} {t1 t2 t3 : Tok} (x : TupsIn fam vs bs) (ht : (t, o) ∈ fam) (ho : IsTupO o [.int i t1, .int j t2, .int k t3]) : TupsIn fam (vs ++ [.ref t]) (bs ++ [(i, j, k)]) := by
  induction x with
  | nil => exact .cons ht ho .nil
  | cons a b _ ih => exact .cons a b ih
theorem TupsIn.are (x : TupsIn fam vs bs) (s : ∀ p ∈ fam, h.get? p.1 = some p.2) : TupsAre h vs bs := by
  induction x with
  | nil => exact .nil
  | cons a b _ ih => exact .cons (s _ a) b ih
theorem TupsIn.length (x : TupsIn fam vs bs) : vs.length = bs.length := by
  induction x with
  | nil => rfl
  | cons _ _ _ ih => simp [ih]
theorem MtsIn.get (x : MtsIn fam vs bs) : ∀ {n : Nat}, n < vs.length → ∃ y da i j k t1 t2 t3, vs[n]? = some (.ref y) ∧ bs[n]? = some (i, j, k) ∧ (y, matchObj da [.int (i : Nat) t1, .int (j : Nat) t2, .int (k : Nat) t3]) ∈ fam := by
  induction x with
  | nil => intro n hn; simp at hn
  | cons hx r ih =>
    intro n hn
    cases n with
    | zero => exact ⟨_, _, _, _, _, _, _, _, rfl, rfl, hx⟩
    | succ n =>
      obtain ⟨y, da, i, j, k, t1, t2, t3, e1, e2, e3⟩ := ih (n := n) (by simpa using hn)
      exact ⟨y, da, i, j, k, t1, t2, t3, by simpa using e1, by simpa using e2, e3⟩
theorem MtsIn.pick (x : MtsIn fam vs bs) : ∀ (ps : List Nat), (∀ n ∈ ps, n < vs.length) → MtsIn fam (ps.map fun i => vs.getD i .none) (ps.map fun i => bs.getD i (0, 0, 0))
  | [], _ => .nil
  | n :: ps, hp => by
    obtain ⟨y, da, i, j, k, t1, t2, t3, e1, e2, e3⟩ := x.get (hp n (.head _))
    have a1 : vs.getD n .none = .ref y := by rw [List.getD_eq_getElem?_getD, e1]; rfl
    have a2 : bs.getD n (0, 0, 0) = (i, j, k) := by rw [List.getD_eq_getElem?_getD, e2]; rfl
    rw [List.map_cons, List.map_cons, a1, a2]
    exact .cons e3 (x.pick ps fun n hn => hp n (.tail _ hn))
theorem MtsIn.refs (x : MtsIn fam vs bs) : ∀ v ∈ vs, ∃ a, v = .ref a := by
  induction x with
  | nil => simp
  | cons _ _ ih =>
    intro v hv
    rcases List.mem_cons.mp hv with rfl | hv
    · exact ⟨_, rfl⟩
    · exact ih v hv
noncomputable def mgB : List Stmt := forBody (stN gmbB 9)
inductive MgOut (h₀ : Heap) (D : List Addr) (L : Addr) (m : Str → Option Value) (dx na ba I : Addr) (od ob oI : Obj) (fam : List (Addr × Obj)) (ds : List (Nat × Nat × Nat)) (b1 b2 : Nat × Nat × Nat) (h₃ : Heap) : Prop
  | mk (m' : Str → Option Value) (on' : Obj) (vn' : List Value) (fam' : List (Addr × Obj)) (ds' : List (Nat × Nat × Nat)) (c : Nat × Nat × Nat) (t1 t2 t3 : Tok) (x1 : Keep m' m [(Str.ofString "i1"), (Str.ofString "j1"), (Str.ofString "k1")]) (x2 : IsLst on' vn') (x3 : TupsIn fam' vn' ds') (x4 : ∀ p ∈ fam, p ∈ fam') (x5 : m' (Str.ofString "i1") = some (.int (c.1 : Nat) t1)) (x6 : m' (Str.ofString "j1") = some (.int (c.2.1 : Nat) t2)) (x7 : m' (Str.ofString "k1") = some (.int (c.2.2 : Nat) t3)) (x8 : ds'.length ≤ ds.length + 1)
      (x9 : ∀ r, ds ++ merge b1 (b2 :: r) = ds' ++ merge c r) (x0 : S h₀ D L m' ((dx, od) :: (na, on') :: (ba, ob) :: fam' ++ [(I, oI)]) h₃)
theorem mg_turn {x dx na ba y da I : Addr} {od on ob oI : Obj} {i1 j1 k1 i2 j2 k2 : Nat} {t1 t2 t3 u1 u2 u3 : Tok} {vn : List Value} {ds : List (Nat × Nat × Nat)} (e : EnvOk env) (hL : Loc env gmbN) (hsc : env.scope = fdOf_SequenceMatcher_get_matching_blocks.scope) (hh : A.handled = none)
    (m1 : m (Str.ofString "non_adjacent") = some (.ref na)) (m2 : m (Str.ofString "i1") = some (.int i1 t1)) (m3 : m (Str.ofString "j1") = some (.int j1 t2)) (m4 : m (Str.ofString "k1") = some (.int k1 t3)) (m5 : m (Str.ofString "i2") = some (.int i2 u1)) (m6 : m (Str.ofString "j2") = some (.int j2 u2)) (m7 : m (Str.ofString "k2") = some (.int k2 u3)) (hn : IsLst on vn) (hd : TupsIn fam vn ds) (hz : ds.length < 100000)
    (H : S h₀ D env.locals m ((dx, od) :: (na, on) :: (ba, ob) :: fam ++ [(I, oI)]) h)
    {Q : Flow → Heap → Prop} (q : ∀ h₃, MgOut h₀ D env.locals m dx na ba I od ob oI fam ds (i1, j1, k1) (i2, j2, k2) h₃ → Q .next h₃) : T prog w A (execs mgB env) h Q := by
  have other : ¬ (i1 + k1 = i2 ∧ j1 + k1 = j2) → ∀ {Q' : Flow → Heap → Prop}, (∀ h₃, MgOut h₀ D env.locals m dx na ba I od ob oI fam ds (i1, j1, k1) (i2, j2, k2) h₃ → Q' .next h₃) → T prog w A (execs (match stN mgB 0 with | .If _ _ b _ => b | _ => []) env) h Q' := by
    intro hc Q' q'
    have last : ∀ {on' vn' fam' ds' h₅}, IsLst on' vn' → TupsIn fam' vn' ds' → (∀ p ∈ fam, p ∈ fam') → ds' = ds ++ (if k1 = 0 then [] else [(i1, j1, k1)]) → S h₀ D env.locals m ((dx, od) :: (na, on') :: (ba, ob) :: fam' ++ [(I, oI)]) h₅ →
        T prog w A (execs ((match stN mgB 0 with | .If _ _ b _ => b | _ => []).drop 1) env) h₅ Q' := by
      intro on' vn' fam' ds' h₅ l₅ d₅ f₅ e₅ H₅
      refine T.execs_cons ?_
      refine t_AssignSwap (h₀ := h₀) (D := D) (names := [(Str.ofString "i1"), (Str.ofString "j1"), (Str.ofString "k1")]) e hh ?_ (hL.subs (by decide +kernel)) (sw_of hsc (by kernel_rfl!)) rfl
      walk_at "nm"
      walk_at "nm"
      walk_at "nm"
      refine ⟨by show 3 ≤ sizeLine; decide, rfl, _, _, H₅, fun h₆ H₆ => ?_⟩
      simp only [updAll, List.reverse_cons, List.reverse_nil, List.nil_append, List.cons_append] at H₆
      refine T.execs_nil (q' _ ⟨_, on', vn', fam', ds', (i2, j2, k2), u1, u2, u3, ?_, l₅, d₅, f₅, upd_here, upd_next (by decide +kernel) upd_here, upd_next (by decide +kernel) (upd_next (by decide +kernel) upd_here), ?_, ?_, H₆⟩)
      · intro y hy
        simp only [List.mem_cons, List.not_mem_nil, or_false, not_or] at hy
        simp [upd, hy.1, hy.2.1, hy.2.2]
      · rw [e₅]; split <;> simp
      · intro r
        rw [merge, if_neg hc, e₅]
        simp
    refine T.execs_cons (T.If (t_isTrue_plain ?_))
    walk_at "nm"
    refine t_truthy_int ?_
    apply ite_cases <;> intro _
    case isFalse z =>
      have z : k1 = 0 := by simpa using z
      exact T.execs_nil (last hn hd (fun p hp => hp) (by rw [if_pos z, List.append_nil]) H)
    rename_i z
    have z : k1 ≠ 0 := by simpa using z
    refine T.execs_cons (T.Expr (T.Call_method ?_) e.inter)
    walk_at "nm"
    have gn : h.get? na = some on := H.get (by first | walk_at "mem" | simp)
    refine t_getMethodB gn hn.cls.1 hn.cls.2 PySem.F.plainAttrs_list PySem.F.slot_list_append PySem.F.type_list_append ?_
    refine T.callWith ?_ rfl
    refine t_Tuple ?_ rfl
    walk_at "nm"
    walk_at "nm"
    walk_at "nm"
    refine ⟨by show 3 ≤ sizeLine; decide, fun ta h₈ ot s₈ n₈ g₈ l₈ => ⟨Keeps.builtin, ?_⟩⟩
    have H₈ := H.add s₈ n₈ g₈
    have gn₈ : h₈.get? na = some on := H₈.get (by first | walk_at "mem" | simp)
    refine t_append gn₈ hn (by have := hd.length; rw [sizeLine_eq]; (first | lia | omega)) fun h₉ on₉ s₉ g₉ l₉ => ⟨(fun b q => by cases q), ?_⟩
    have H₉ := (H₈.upd (o' := on₉) 2 (d := na) (o := on) (by first | walk_at "mem" | simp) s₉ g₉).perm (l' := (dx, od) :: (na, on₉) :: (ba, ob) :: ((ta, ot) :: fam) ++ [(I, oI)]) ((List.Perm.swap _ _ _).trans (.cons _ ((List.Perm.swap _ _ _).trans (.cons _ (List.Perm.swap _ _ _)))))
    refine T.execs_nil (last l₉ ((hd.mono (fun p hp => .tail _ hp)).snoc (.head _) l₈) (fun p hp => .tail _ hp) (by rw [if_neg z]) H₉)
  refine T.execs_cons (T.If (t_isTrue_and (T.isTrue_Compare (T.BinOp ?_))))
  walk_at "nm"
  walk_at "nm"
  refine T.add fun w1 => ?_
  walk_at "nm"
  refine T.eqI (T.truthy_bool ?_)
  apply ite_cases <;> intro _
  case isFalse z =>
    have z : ¬ (i1 : Int) + k1 = i2 := by simpa using z
    exact other (fun c => z (by (first | lia | omega))) fun _ z => T.execs_nil (q _ z)
  rename_i z1
  have z1 : (i1 : Int) + k1 = i2 := by simpa using z1
  refine t_isTrue_and (T.isTrue_Compare (T.BinOp ?_))
  walk_at "nm"
  walk_at "nm"
  refine T.add fun w2 => ?_
  walk_at "nm"
  refine T.eqI (T.truthy_bool ?_)
  apply ite_cases <;> intro _
  case isFalse z =>
    have z : ¬ (j1 : Int) + k1 = j2 := by simpa using z
    exact other (fun c => z (by (first | lia | omega))) fun _ z => T.execs_nil (q _ z)
  rename_i z2
  have z2 : (j1 : Int) + k1 = j2 := by simpa using z2
  refine t_isTrue_and0 ?_
  refine T.execs_cons (T.AugAssign_Name ?_)
  refine T.loadName e H m4 ?_ (hL.of (by first | walk_at "mem" | simp))
  walk_at "nm"
  refine T.iadd fun w3 => ?_
  refine T.storeName e H (fun h₁ H₁ => ?_) (hL.of (by first | walk_at "mem" | simp))
  refine T.execs_nil (T.execs_nil (q _ ⟨_, on, vn, fam, ds, (i1, j1, k1 + k2), t1, t2, w3, ?_, hn, hd, fun p hp => hp, by walk_at "look", by walk_at "look", ?_, by (first | lia | omega), ?_, H₁⟩))
  · intro y hy
    simp only [List.mem_cons, List.not_mem_nil, or_false, not_or] at hy
    simp [upd, hy.2.2]
  · exact upd_here.trans (by congr 2)
  · intro r
    rw [merge, if_pos ⟨by show i1 + k1 = i2; (first | lia | omega), by show j1 + k1 = j2; (first | lia | omega)⟩]
end
end Mine

end
section
open PySem PySem.W PyProof.Rows PySem.Calls
set_option Elab.async false
set_option linter.unusedVariables false
set_option maxRecDepth 100000
set_option maxHeartbeats 4000000
namespace Mine
section
variable {prog : Program} {w : World} {A : Around} {h h' h₀ : Heap} {env : Env} {D : List Addr} {m : Str → Option Value} {l : List (Addr × Obj)}
theorem t_isnot_none {Q : Value → Heap → Prop} (q : Q (.bool false) h) : T prog w A (compareOp .IsNot .none .none) h Q := fun s es => by subst es; exact wpAny_isNot_self rfl ⟨_, s.toks, rfl, q⟩
theorem t_getMake {Q : Value → Heap → Prop} (X : (frag w.params).In h) (q : ∀ h' qm, Sub [] h h' → h.get? qm = none → h'.get? qm = some (methodObj (.ref at_Match_make) (.ref aMt)) → Q (.ref qm) h') : T prog w A (getAttr (.ref aMt) (Str.ofString "_make") true) h Q := fun s es => by
  subst es
  refine cls_bind (K := frag w.params) (mc := .type "type") X (reads_mt w.params) (reads_cm w.params) (wpAny_call (cm_get (K := frag w.params) (s := { s with toks := s.toks + 1 }) X (rec_cm w.params) (handed_on rfl ?_)))
  exact ⟨_, _, rfl, q _ _ (Sub.push _ _) (get_size_none _) (get_push_self _ _)⟩
theorem S.newIn {L dx b : Addr} {o : Obj} (H : S h₀ [dx] L m l h) (hb : (b, o) ∈ l) (nb : b ≠ dx) : h₀.get? b = none := (H.own _ hb).resolve_left (by simpa using nb)
theorem mu_ge (rs : List Reg) : rs.length ≤ mu rs := by
  induction rs with
  | nil => simp [mu]
  | cons r rs ih => simp [mu] at ih ⊢; (first | lia | omega)
inductive QuInv (h₀ : Heap) (L : Addr) (m₇ : Str → Option Value) (ns ms : List Int) (dx qa ba : Addr) (od : Obj) (n : Nat) (h : Heap) : Prop
  | mk (m : Str → Option Value) (oq ob : Obj) (vq vb : List Value) (fam : List (Addr × Obj)) (rs : List Reg) (bs : List (Nat × Nat × Nat)) (x1 : n = mu rs) (x2 : Keep m m₇ [(Str.ofString "alo"), (Str.ofString "ahi"), (Str.ofString "blo"), (Str.ofString "bhi"), (Str.ofString "i"), (Str.ofString "j"), (Str.ofString "k"), (Str.ofString "x")]) (x3 : IsLst oq vq) (x4 : IsLst ob vb) (x5 : RegsIn fam vq rs) (x6 : MtsIn fam vb bs) (x7 : Qu ns ms rs bs) (x8 : bs.length + mu rs ≤ 2 * ns.length + 1) (x9 : S h₀ [dx] L m ((dx, od) :: (qa, oq) :: (ba, ob) :: fam) h)
inductive MgInv (m₁₄ : Str → Option Value) (dx na ba : Addr) (od ob₉ : Obj) (fam : List (Addr × Obj)) (W : List (Nat × Nat × Nat)) (idx : Nat) (m₁₅ : Str → Option Value) (l₁₅ : List (Addr × Obj)) : Prop
  | mk (on : Obj) (vn : List Value) (fam' : List (Addr × Obj)) (ds : List (Nat × Nat × Nat)) (c : Nat × Nat × Nat) (t1 t2 t3 : Tok) (x1 : l₁₅ = (dx, od) :: (na, on) :: (ba, ob₉) :: fam') (x2 : IsLst on vn) (x3 : TupsIn fam' vn ds) (x4 : ∀ p ∈ fam, p ∈ fam') (x5 : Keep m₁₅ m₁₄ [(Str.ofString "i1"), (Str.ofString "j1"), (Str.ofString "k1"), (Str.ofString "i2"), (Str.ofString "j2"), (Str.ofString "k2")]) (x6 : m₁₅ (Str.ofString "i1") = some (.int (c.1 : Nat) t1)) (x7 : m₁₅ (Str.ofString "j1") = some (.int (c.2.1 : Nat) t2)) (x8 : m₁₅ (Str.ofString "k1") = some (.int (c.2.2 : Nat) t3)) (x9 : ds.length ≤ idx) (x0 : ds ++ merge c (W.drop idx) = merge (0, 0, 0) W)
theorem blocks {x dx : Addr} {od : Obj} {am : Str → Option Value} {ns ms : List Int} {hb : Heap} {Q : Value → Heap → Prop} (G : Gr (frag w.params) hb) (B : Sub [] hb h) (hn : hb.get? dx = none) (hh : A.handled = none) (hroom : A.depth + 12 < recursionLimit) (hu : A.units + 20 < cLine)
    (MM : Mat prog w h x dx od am ns ms) (hmb : am (Str.ofString "matching_blocks") = some .none) (hmeth : am (Str.ofString "find_longest_match") = none) (hz : ns.length < 10000)
    (hW : ∀ W, Blk ns ms 0 ns.length 0 ms.length W → W.length < 64)
    (q : ∀ h' od' va o vs W, Sub [dx] h h' → h'.get? dx = some od' → IsAttrs attrN od' (upd am (Str.ofString "matching_blocks") (.ref va)) → h.get? va = none → h'.get? va = some o → IsLst o vs → Blk ns ms 0 ns.length 0 ms.length W → MtsAre h' vs (merge (0, 0, 0) W ++ [(ns.length, ms.length, 0)]) → Q (.ref va) h') :
    TC prog w A (.call (.ref at_SequenceMatcher_get_matching_blocks) ⟨[.ref x], []⟩) h Q := by
  refine TC.def (binds := [((Str.ofString "self"), .ref x)]) [(dx, od)] (fn_gmb w.params) (G.sub B) (by (first | lia | omega)) (by kernel_rfl!) (by kernel_rfl!) (by simpa using MM.dict) (by first | walk_at "mem" | simp) fun h₁ L H => ?_
  have e := (fn_gmb w.params).ok L
  have hL : Loc (callEnv fdOf_SequenceMatcher_get_matching_blocks L at_SequenceMatcher_get_matching_blocks) gmbN := Loc.mk' (by kernel_rfl!)
  have kg : ∀ y ∈ [(Str.ofString "len"), (Str.ofString "list"), (Str.ofString "map"), (Str.ofString "Match")], (callEnv fdOf_SequenceMatcher_get_matching_blocks L at_SequenceMatcher_get_matching_blocks).kindOf y = some .globalImplicit := by
    have : ([(Str.ofString "len"), (Str.ofString "list"), (Str.ofString "map"), (Str.ofString "Match")].all fun y => decide ((callEnv fdOf_SequenceMatcher_get_matching_blocks L at_SequenceMatcher_get_matching_blocks).kindOf y = some .globalImplicit)) = true := by kernel_rfl!
    exact fun y hy => of_decide_eq_true (List.all_eq_true.mp this y hy)
  have hsc : (callEnv fdOf_SequenceMatcher_get_matching_blocks L at_SequenceMatcher_get_matching_blocks).scope = fdOf_SequenceMatcher_get_matching_blocks.scope := rfl
  replace H : S h [dx] L (upd (fun _ => none) (Str.ofString "self") (.ref x)) [(dx, od)] h₁ := H
  generalize henv : callEnv fdOf_SequenceMatcher_get_matching_blocks L at_SequenceMatcher_get_matching_blocks = env at *
  have hLo : L = env.locals := by rw [← henv]; rfl
  subst hLo
  clear henv
  have hh' : (A.deeper env).handled = none := hh
  have hd' : (A.deeper env).depth + 11 < recursionLimit := by show A.depth + 1 + 11 < _; (first | lia | omega)
  have hu' : (A.deeper env).units + 17 < cLine := by show A.units + 3 + 17 < _; (first | lia | omega)
  generalize A.deeper env = A' at *
  have GG : ∀ {m l h₂}, S h [dx] env.locals m l h₂ → Gr (frag w.params) h₂ := fun H => gr_in G B hn H
  have P := plainSM w.params
  have MK : ∀ {m l h₂}, S h [dx] env.locals m ((dx, od) :: l) h₂ → Mat prog w h₂ x dx od am ns ms := fun H => MM.keep H.base (H.get (by first | walk_at "mem" | simp))
  obtain ⟨ax, vs, a1, a2, a3⟩ := MM.la
  obtain ⟨bx, us, b1, b2, b3⟩ := MM.lb
  have nax := list_ne a2 MM.dict MM.attrs
  have nbx := list_ne b2 MM.dict MM.attrs
  refine T.execs_cons (T.Expr (T.cStr fun t => ⟨(fun b q => by cases q), ?_⟩) e.inter)
  refine T.execs_cons (T.If (T.isTrue_Compare (T.Attribute ?_)))
  walk_at "nm"
  refine T.getAttr P (GG H).k ⟨(MK H).ob, (MK H).dict⟩ MM.attrs hmb (attrFind _ (by delta attrN; walk_at "mem")) rfl ?_
  refine T.cNone (t_isnot_none (T.truthy_bool (T.execs_nil ?_)))
  refine T.execs_cons ?_
  refine t_AssignSwap (h₀ := h) (D := [dx]) (names := [(Str.ofString "la"), (Str.ofString "lb")]) e hh' ?_ (hL.subs (by decide +kernel)) (sw_of hsc (by kernel_rfl!)) rfl
  refine T.Call_Name ?_
  refine T.builtin (v := .builtin "len") e (GG H) (by kernel_rfl!) (by kernel_rfl!) ?_ (kg _ (by first | walk_at "mem" | simp)) (by decide +kernel) (by decide +kernel)
  refine T.callWith (T.Attribute ?_) rfl
  walk_at "nm"
  refine T.getAttr P (GG H).k ⟨(MK H).ob, (MK H).dict⟩ MM.attrs a1 (attrFind _ (by delta attrN; walk_at "mem")) rfl ?_
  refine ⟨Keeps.builtin, t_len (a2.at fun o eo => H.old eo (by simpa using nax)) (by have := a3.length; (first | lia | omega)) fun ta => ?_⟩
  refine T.Call_Name ?_
  refine T.builtin (v := .builtin "len") e (GG H) (by kernel_rfl!) (by kernel_rfl!) ?_ (kg _ (by first | walk_at "mem" | simp)) (by decide +kernel) (by decide +kernel)
  refine T.callWith (T.Attribute ?_) rfl
  walk_at "nm"
  refine T.getAttr P (GG H).k ⟨(MK H).ob, (MK H).dict⟩ MM.attrs b1 (attrFind _ (by delta attrN; walk_at "mem")) rfl ?_
  refine ⟨Keeps.builtin, t_len (b2.at fun o eo => H.old eo (by simpa using nbx)) (by have := b3.length; have := MM.zb; (first | lia | omega)) fun tb => ?_⟩
  refine ⟨by show 2 ≤ sizeLine; decide, rfl, _, _, H, fun h₂ H₂ => ?_⟩
  simp only [updAll, List.reverse_cons, List.reverse_nil, List.nil_append, List.cons_append, a3.length, b3.length] at H₂
  refine T.execs_cons (T.Assign_Name (t_List (t_Tuple ?_ rfl) rfl))
  refine T.cInt fun u1 => ?_
  walk_at "nm"
  refine T.cInt fun u2 => ?_
  walk_at "nm"
  refine ⟨by show 4 ≤ sizeLine; decide, fun tt h₃ ot s₃ n₃ g₃ l₃ => ?_⟩
  have H₃ := H₂.add s₃ n₃ g₃
  refine ⟨by show 1 ≤ sizeLine; decide, fun qa h₄ oq s₄ n₄ g₄ l₄ => ?_⟩
  have H₄ := H₃.add s₄ n₄ g₄
  refine T.storeName e H₄ (fun h₅ H₅ => ?_) (hL.of (by first | walk_at "mem" | simp))
  refine T.execs_cons (T.Assign_Name (t_List ?_ rfl))
  refine ⟨by decide, fun ba h₆ ob s₆ n₆ g₆ l₆ => ?_⟩
  have H₆ := H₅.add s₆ n₆ g₆
  refine T.storeName e H₆ (fun h₇ H₇ => ?_) (hL.of (by first | walk_at "mem" | simp))
  have H₇' := H₇.perm (l' := (dx, od) :: (qa, oq) :: (ba, ob) :: [(tt, ot)]) (by
    refine (List.perm_append_comm (l₁ := [(ba, ob), (qa, oq), (tt, ot)]) (l₂ := [(dx, od)])).trans ?_
    exact .cons _ (List.Perm.swap _ _ _))
  generalize hm7 : upd (upd (upd (upd (upd (fun _ => none) (Str.ofString "self") (.ref x)) (Str.ofString "lb") (.int ms.length tb)) (Str.ofString "la") (.int ns.length ta)) (Str.ofString "queue") (.ref qa)) (Str.ofString "matching_blocks") (.ref ba) = m₇ at *
  have c1 : m₇ (Str.ofString "self") = some (.ref x) := by subst hm7; walk_at "look"
  have c2 : m₇ (Str.ofString "la") = some (.int ns.length ta) := by subst hm7; walk_at "look"
  have c3 : m₇ (Str.ofString "lb") = some (.int ms.length tb) := by subst hm7; walk_at "look"
  have c4 : m₇ (Str.ofString "queue") = some (.ref qa) := by subst hm7; walk_at "look"
  have c5 : m₇ (Str.ofString "matching_blocks") = some (.ref ba) := by subst hm7; walk_at "look"
  clear hm7
  have mu0 : mu [(0, ns.length, 0, ms.length)] = 2 * ns.length + 1 := by simp [mu]
  refine T.execs_cons (T.While (QuInv h env.locals m₇ ns ms dx qa ba od) ?_ _ ⟨m₇, oq, ob, _, _, _, _, _, rfl, fun _ _ => rfl, l₄, l₆, .cons (r := (0, ns.length, 0, ms.length)) (.head _) l₃ .nil, .nil, Qu.start, by rw [mu0]; simp, H₇'⟩)
  rintro n h₈ ⟨m₈, oq₈, ob₈, vq, vb, fam, rs, bs, rfl, kp, lq, lb, hr, hm, hQ, hle, H₈⟩
  have hrl := hr.length
  have hml := hm.length
  have hmu := mu_ge rs
  refine t_isTrue_plain ?_
  refine T.Name e H₈ ((kp _ (by decide +kernel)).trans c4) ?_ (hL.of (by first | walk_at "mem" | simp)) (by decide +kernel)
  refine t_truthyList (H₈.get (by first | walk_at "mem" | simp)) lq (by (first | lia | omega)) ?_
  by_cases hne : vq = []
  · -- the queue is empty
    subst hne
    obtain rfl : rs = [] := by
      cases rs with
      | nil => rfl
      | cons _ _ => simp at hrl
    rw [if_neg (by first | walk_at "mem" | simp)]
    obtain ⟨W, w1, w2⟩ := hQ.fin [] .nil
    simp only [List.flatten_nil, List.append_nil] at w2
    have nodupW : (bs.map (·.1)).Nodup := by
      have p := w1.fst
      have pm : (W.map (·.1)).Nodup := List.pairwise_map.mpr (p.imp fun h => Nat.ne_of_lt h)
      exact (w2.map (·.1)).nodup_iff.mpr pm
    have kk : ∀ {y v}, m₇ y = some v → y ∉ [(Str.ofString "alo"), (Str.ofString "ahi"), (Str.ofString "blo"), (Str.ofString "bhi"), (Str.ofString "i"), (Str.ofString "j"), (Str.ofString "k"), (Str.ofString "x")] → m₈ y = some v := fun h1 h2 => (kp _ h2).trans h1
    replace c1 := kk c1 (by decide +kernel)
    replace c2 := kk c2 (by decide +kernel)
    replace c3 := kk c3 (by decide +kernel)
    replace c5 := kk c5 (by decide +kernel)
    have nba : ba ≠ dx := fun z => by
      have := H₈.nodup
      simp only [List.map_cons, List.nodup_cons, List.mem_cons] at this
      exact this.1 (.inr (.inl z.symm))
    have fba : h.get? ba = none := H₈.newIn (b := ba) (o := ob₈) (by first | walk_at "mem" | simp) nba
    have inHb : ∀ {b o}, hb.get? b = some o → b ≠ dx ∧ b ≠ env.locals ∧ b ≠ ba := fun {b o} eb => by
      have eb' := B _ _ (by first | walk_at "mem" | simp) eb
      refine ⟨fun z => ?_, fun z => ?_, fun z => ?_⟩
      · rw [z, hn] at eb; cases eb
      · rw [z, H₈.newL] at eb'; cases eb'
      · rw [z, fba] at eb'; cases eb'
    refine T.execs_cons (T.Expr (T.Call_method ?_) e.inter)
    refine T.Name e H₈ c5 ?_ (hL.of (by first | walk_at "mem" | simp)) (by decide +kernel)
    have gb : h₈.get? ba = some ob₈ := H₈.get (by first | walk_at "mem" | simp)
    refine t_getMethodB gb lb.cls.1 lb.cls.2 PySem.F.plainAttrs_list PySem.F.slot_list_sort PySem.F.type_list_sort ?_
    refine T.callWith ⟨Keeps.builtin, ?_⟩ rfl
    refine t_sortM (L := env.locals) (by (first | lia | omega)) (fun h' s' b o eb => ?_) H₈.ns gb lb (by rw [hml, w2.length_eq]; exact hW W w1) (hm.are fun p hp => H₈.led p (by simp [hp])) nodupW fun h₉ ob₉ vb' bs' s₉ ns₉ g₉ l₉ mt₉ p₉ sr₉ ix₉ => ⟨(fun b q => by cases q), ?_⟩
    · have g0 := G.k b o eb
      have nb := inHb g0
      exact s' b o (by simp [nb.2.1, nb.2.2]) (H₈.base b o (by simpa using nb.1) (B b o (by first | walk_at "mem" | simp) g0))
    have eW : bs' = W := sorted_unique (p₉.trans w2) sr₉ w1.fst
    have hm₉ : MtsIn fam vb' W := by
      obtain ⟨ps, i1, i2, i3⟩ := ix₉
      rw [← eW, i2, i3]
      exact hm.pick ps i1
    have H₉ : S h [dx] env.locals m₈ ((dx, od) :: (qa, oq₈) :: (ba, ob₉) :: fam) h₉ := H₈.frameUpd (o' := ob₉) 2 (d := ba) (o := ob₈) (by first | walk_at "mem" | simp) s₉ g₉ ns₉
    refine T.execs_cons (t_Assign3 (T.cInt fun v1 => ?_))
    refine t_assignName e H₉ (fun h₁₀ H₁₀ => ?_) (hL.of (by first | walk_at "mem" | simp))
    refine t_assignName e H₁₀ (fun h₁₁ H₁₁ => ?_) (hL.of (by first | walk_at "mem" | simp))
    refine t_assignName e H₁₁ (fun h₁₂ H₁₂ => ?_) (hL.of (by first | walk_at "mem" | simp))
    refine T.execs_cons (T.Assign_Name (t_List ?_ rfl))
    refine ⟨by decide, fun na h₁₃ on s₁₃ n₁₃ g₁₃ l₁₃ => ?_⟩
    have H₁₃ := H₁₂.add s₁₃ n₁₃ g₁₃
    refine T.storeName e H₁₃ (fun h₁₄ H₁₄ => ?_) (hL.of (by first | walk_at "mem" | simp))
    have H₁₄' := H₁₄.perm (l' := (dx, od) :: (na, on) :: (ba, ob₉) :: ((qa, oq₈) :: fam)) ((List.Perm.swap _ _ _).trans (.cons _ (.cons _ (List.Perm.swap _ _ _))))
    generalize hm14 : upd (upd (upd (upd m₈ (Str.ofString "i1") (.int 0 v1)) (Str.ofString "j1") (.int 0 v1)) (Str.ofString "k1") (.int 0 v1)) (Str.ofString "non_adjacent") (.ref na) = m₁₄ at *
    have d1 : m₁₄ (Str.ofString "self") = some (.ref x) := by subst hm14; walk_at "look"
    have d2 : m₁₄ (Str.ofString "la") = some (.int ns.length ta) := by subst hm14; walk_at "look"
    have d3 : m₁₄ (Str.ofString "lb") = some (.int ms.length tb) := by subst hm14; walk_at "look"
    have d4 : m₁₄ (Str.ofString "matching_blocks") = some (.ref ba) := by subst hm14; walk_at "look"
    have d5 : m₁₄ (Str.ofString "non_adjacent") = some (.ref na) := by subst hm14; walk_at "look"
    have d6 : m₁₄ (Str.ofString "i1") = some (.int 0 v1) := by subst hm14; walk_at "look"
    have d7 : m₁₄ (Str.ofString "j1") = some (.int 0 v1) := by subst hm14; walk_at "look"
    have d8 : m₁₄ (Str.ofString "k1") = some (.int 0 v1) := by subst hm14; walk_at "look"
    clear hm14
    have hWl : W.length < 64 := hW W w1
    have hvl : vb'.length = W.length := hm₉.length
    refine T.execs_cons (T.For ?_)
    refine T.Name e H₁₄' d4 ?_ (hL.of (by first | walk_at "mem" | simp)) (by decide +kernel)
    refine tf_listT (vs := vb') hh' H₁₄' hm₉.refs (MgInv m₁₄ dx na ba od ob₉ fam W) ?_ ?_ ?_ ?_ ?_
    · rintro idx m₁₅ l₁₅ ⟨on, vn, fam', ds, c, t1, t2, t3, rfl, _⟩ d hd
      simp at hd ⊢; exact .inl hd
    · rintro idx m₁₅ l₁₅ h₁₅ ⟨on, vn, fam', ds, c, t1, t2, t3, rfl, _⟩ H₁₅
      exact l₉.isList (H₁₅.get (by first | walk_at "mem" | simp))
    · exact ⟨on, [], (qa, oq₈) :: fam, [], (0, 0, 0), v1, v1, v1, rfl, l₁₃, .nil, fun p hp => .tail _ hp, fun _ _ => rfl, d6, d7, d8, by simp, by simp⟩
    · rintro idx v m₁₅ l₁₅ I oI h₁₅ hvi ⟨on, vn, fam', ds, c, t1, t2, t3, rfl, ln, hds, hsub, kp₁₅, f1, f2, f3, hdl, hmg⟩ H₁₅
      have hidx : idx < vb'.length := by
        rcases Nat.lt_or_ge idx vb'.length with y | y
        · exact y
        · rw [List.getElem?_eq_none y] at hvi; cases hvi
      obtain ⟨y, da, i, j, k, r1, r2, r3, e1, e2, e3⟩ := hm₉.get hidx
      rw [e1] at hvi
      obtain rfl := Option.some.inj hvi
      have gy : h₁₅.get? y = some (matchObj da [.int i r1, .int j r2, .int k r3]) := H₁₅.get (by have := hsub _ e3; simp [this])
      refine t_assignMtN (names := [(Str.ofString "i2"), (Str.ofString "j2"), (Str.ofString "k2")]) e hh' H₁₅ (GG H₁₅).k gy rfl (hL.subs (by decide +kernel)) fun h₁₆ H₁₆ => ?_
      simp only [updAll] at H₁₆
      have f1' := (upd_next (u := Value.int k r3) (by decide +kernel : (Str.ofString "i1") ≠ (Str.ofString "k2")) (upd_next (u := Value.int j r2) (by decide +kernel : (Str.ofString "i1") ≠ (Str.ofString "j2")) (upd_next (u := Value.int i r1) (by decide +kernel : (Str.ofString "i1") ≠ (Str.ofString "i2")) f1)))
      refine mg_turn (m := upd (upd (upd m₁₅ (Str.ofString "i2") (.int i r1)) (Str.ofString "j2") (.int j r2)) (Str.ofString "k2") (.int k r3)) (x := x) (y := y) (da := da) (i2 := i) (j2 := j) (k2 := k) e hL hsc hh' (by have := (kp₁₅ _ (by decide +kernel)).trans d5; walk_at "look") f1' (by walk_at "look") (by walk_at "look") (by walk_at "look") (by walk_at "look") (by walk_at "look") ln hds (by (first | lia | omega)) H₁₆ fun h₁₇ z => ?_
      obtain ⟨m', on', vn', fam'', ds', c', s1, s2, s3, z1, z2, z3, z4, z5, z6, z7, z8, z9, z10⟩ := z
      refine ⟨m', _, ⟨on', vn', fam'', ds', c', s1, s2, s3, rfl, z2, z3, fun p hp => z4 p (hsub p hp), ?_, z5, z6, z7, by (first | lia | omega), ?_⟩, z10⟩
      · intro y hy
        simp only [List.mem_cons, List.not_mem_nil, or_false, not_or] at hy
        rw [z1 y (by simp [hy]), ← kp₁₅ y (by simp [hy])]
        simp [upd, hy]
      · rw [← hmg, ← z9, List.drop_eq_getElem_cons (by (first | lia | omega) : idx < W.length)]
        have : W[idx]'(by (first | lia | omega)) = (i, j, k) := by
          have := e2
          rw [List.getElem?_eq_getElem (by (first | lia | omega) : idx < W.length)] at this
          exact Option.some.inj this
        rw [this]
    rintro m₁₅ l₁₅ h₁₅ ⟨on, vn, fam', ds, c, t1, t2, t3, rfl, ln, hds, hsub, kp₁₅, f1, f2, f3, hdl, hmg⟩ H₁₅
    rw [hvl, List.drop_length] at hmg
    rw [hvl] at hdl
    obtain ⟨i1, j1, k1⟩ := c
    simp only at f1 f2 f3
    have g1 := (kp₁₅ _ (by decide +kernel)).trans d1
    have g2 := (kp₁₅ _ (by decide +kernel)).trans d2
    have g3 := (kp₁₅ _ (by decide +kernel)).trans d3
    have g5 := (kp₁₅ _ (by decide +kernel)).trans d5
    have fin : ∀ {on₂ vn₂ fam₂ h₂} , IsLst on₂ vn₂ → TupsIn fam₂ vn₂ (merge (0, 0, 0) W) → S h [dx] env.locals m₁₅ ((dx, od) :: (na, on₂) :: (ba, ob₉) :: fam₂) h₂ → T prog w A' (execs (gmbB.drop 11) env) h₂ fun fl h' => Q (match fl with | .ret v => v | _ => .none) h' := by
      intro on₂ vn₂ fam₂ h₂ ln₂ hd₂ H₂
      have hvn := hd₂.length
      have hml2 : (merge (0, 0, 0) W).length ≤ 64 := by
        rw [← hmg, List.length_append, merge]
        split <;> simp <;> (first | lia | omega)
      refine T.execs_cons (T.Expr (T.Call_method ?_) e.inter)
      walk_at "nm"
      have gn : h₂.get? na = some on₂ := H₂.get (by first | walk_at "mem" | simp)
      refine t_getMethodB gn ln₂.cls.1 ln₂.cls.2 PySem.F.plainAttrs_list PySem.F.slot_list_append PySem.F.type_list_append ?_
      refine T.callWith ?_ rfl
      refine t_Tuple ?_ rfl
      walk_at "nm"
      walk_at "nm"
      refine T.cInt fun u0 => ?_
      refine ⟨by show 3 ≤ sizeLine; decide, fun tA h₃ ot s₃ n₃ g₃ l₃ => ⟨Keeps.builtin, ?_⟩⟩
      have H₃ := H₂.add s₃ n₃ g₃
      have gn₃ : h₃.get? na = some on₂ := H₃.get (by first | walk_at "mem" | simp)
      refine t_append gn₃ ln₂ (by rw [sizeLine_eq]; (first | lia | omega)) fun h₄ on₄ s₄ g₄ l₄ => ⟨(fun b q => by cases q), ?_⟩
      have H₄ := (H₃.upd (o' := on₄) 2 (d := na) (o := on₂) (by first | walk_at "mem" | simp) s₄ g₄).perm (l' := (dx, od) :: (na, on₄) :: (ba, ob₉) :: ((tA, ot) :: fam₂)) ((List.Perm.swap _ _ _).trans (.cons _ ((List.Perm.swap _ _ _).trans (.cons _ (List.Perm.swap _ _ _)))))
      have hd₄ : TupsIn ((tA, ot) :: fam₂) (vn₂ ++ [.ref tA]) (merge (0, 0, 0) W ++ [(ns.length, ms.length, 0)]) := (hd₂.mono (fun p hp => .tail _ hp)).snoc (.head _) l₃
      refine T.execs_cons (t_Assign_Attr (T.Call_Name ?_))
      refine T.builtin (v := .type "list") e (GG H₄) (by kernel_rfl!) (by kernel_rfl!) ?_ (kg _ (by first | walk_at "mem" | simp)) (by decide +kernel) (by decide +kernel)
      refine T.callWith (T.Call_Name ?_) rfl
      refine T.builtin (v := .type "map") e (GG H₄) (by kernel_rfl!) (by kernel_rfl!) ?_ (kg _ (by first | walk_at "mem" | simp)) (by decide +kernel) (by decide +kernel)
      refine T.callWith (T.Attribute ?_) rfl
      refine T.global (v := .ref aMt) e (GG H₄) (by kernel_rfl!) ?_ (kg _ (by first | walk_at "mem" | simp)) (by decide +kernel)
      refine t_getMake (GG H₄).k fun h₅ qm s₅ n₅ g₅ => ?_
      have H₅ := H₄.sub s₅
      walk_at "nm"
      refine ⟨Keeps.type, ?_⟩
      have gn₅ : h₅.get? na = some on₄ := H₅.get (by first | walk_at "mem" | simp)
      refine t_map (l₄.isList gn₅) fun h₆ mp tup it s₆ n1 n2 n3 ne1 ne2 ne3 g1' g2' g3' => ?_
      have H₆ := H₅.sub s₆
      refine ⟨Keeps.type, ?_⟩
      have fr := H₅.fresh n3
      have nd : it ∉ [dx] := fun z => fr.2.2 (by simp at z; simp [z])
      have KB : ∀ h', Sub [it] h₆ h' → S h [dx] env.locals m₁₅ ((dx, od) :: (na, on₄) :: (ba, ob₉) :: ((tA, ot) :: fam₂)) h' := fun h' s' => H₆.keepBut s' fun b hb => by
        obtain rfl : b = it := by simpa using hb
        exact ⟨nd, fr.1, fr.2.1, fr.2.2⟩
      have gn₆ : h₆.get? na = some on₄ := H₆.get (by first | walk_at "mem" | simp)
      refine t_makeAll hh' (by (first | lia | omega)) (fun h' s' => GG (KB h' s')) g1' g2' g3' (s₆ _ _ (by first | walk_at "mem" | simp) g₅) (l₄.isList gn₆) (hd₄.are fun p hp => H₆.led p (by simp at hp ⊢; rcases hp with hp | hp <;> simp [hp])) (by simp [hvn]; (first | lia | omega)) fun h₇ va o₇ vs₇ s₇ n₇ g₇ l₇ mt₇ => ?_
      have H₇ := KB h₇ s₇
      have nva : h.get? va = none := (H₆.fresh n₇).1
      walk_at "nm"
      refine T.setAttr P (GG H₇).k H₇ 0 rfl (MK H₇).ob MM.attrs (attrTake _ (by delta attrN; walk_at "mem")) (fun h₈' od₈ H₈' gx₈ ia₈ k₈ => ?_) (by delta attrN; walk_at "mem") (by decide)
      have vaL : va ≠ env.locals := (H₆.fresh n₇).2.1
      have vad : va ≠ dx := fun z => by
        have := H₆.get (a := dx) (o := od) (by first | walk_at "mem" | simp)
        rw [← z, n₇] at this; cases this
      refine T.execs_cons (T.Return (T.Attribute ?_))
      walk_at "nm"
      refine T.getAttr P (GG H₈').k ⟨gx₈, H₈'.get (by first | walk_at "mem" | simp)⟩ ia₈ upd_here (attrFind _ (by delta attrN; walk_at "mem")) rfl ?_
      refine q h₈' od₈ va o₇ vs₇ W H₈'.base (H₈'.get (by first | walk_at "mem" | simp)) ia₈ nva (k₈ va o₇ vaL vad g₇) l₇ w1 (mt₇.keep fun b db us eb => k₈ b _ ?_ ?_ eb)
      · intro z
        obtain ⟨oL, _, _, e1, e2, _⟩ := H₇.ns
        rw [← z, eb] at e1; cases e1; cases e2
      · intro z
        obtain ⟨es, n, e1, _⟩ := MM.attrs
        have := H₇.get (a := dx) (o := od) (by first | walk_at "mem" | simp)
        rw [← z, eb, e1] at this; cases this
    refine T.execs_cons (T.If (t_isTrue_plain ?_))
    walk_at "nm"
    refine t_truthy_int ?_
    apply ite_cases <;> intro _
    case isFalse z =>
      have z : k1 = 0 := by simpa using z
      refine T.execs_nil (fin ln (by rw [← hmg, merge, if_pos z, List.append_nil]; exact hds) H₁₅)
    rename_i z
    have z : k1 ≠ 0 := by simpa using z
    refine T.execs_cons (T.Expr (T.Call_method ?_) e.inter)
    walk_at "nm"
    have gn : h₁₅.get? na = some on := H₁₅.get (by first | walk_at "mem" | simp)
    refine t_getMethodB gn ln.cls.1 ln.cls.2 PySem.F.plainAttrs_list PySem.F.slot_list_append PySem.F.type_list_append ?_
    refine T.callWith ?_ rfl
    refine t_Tuple ?_ rfl
    walk_at "nm"
    walk_at "nm"
    walk_at "nm"
    refine ⟨by show 3 ≤ sizeLine; decide, fun tA h₁₆ ot s₁₆ n₁₆ g₁₆ l₁₆ => ⟨Keeps.builtin, ?_⟩⟩
    have H₁₆ := H₁₅.add s₁₆ n₁₆ g₁₆
    have gn₁₆ : h₁₆.get? na = some on := H₁₆.get (by first | walk_at "mem" | simp)
    refine t_append gn₁₆ ln (by have := hds.length; rw [sizeLine_eq]; (first | lia | omega)) fun h₁₇ on₁₇ s₁₇ g₁₇ l₁₇ => ⟨(fun b q => by cases q), ?_⟩
    have H₁₇ := (H₁₆.upd (o' := on₁₇) 2 (d := na) (o := on) (by first | walk_at "mem" | simp) s₁₇ g₁₇).perm (l' := (dx, od) :: (na, on₁₇) :: (ba, ob₉) :: ((tA, ot) :: fam')) ((List.Perm.swap _ _ _).trans (.cons _ ((List.Perm.swap _ _ _).trans (.cons _ (List.Perm.swap _ _ _)))))
    refine T.execs_nil (fin l₁₇ ?_ H₁₇)
    rw [← hmg, merge, if_neg z]
    exact (hds.mono (fun p hp => .tail _ hp)).snoc (.head _) l₁₆
  · rw [if_pos (by simpa using hne)]
    refine gmb_turn (x := x) (od := od) (am := am) e hL hh' (by (first | lia | omega)) hmeth GG MM ((kp _ (by decide +kernel)).trans c1) ((kp _ (by decide +kernel)).trans c4) ((kp _ (by decide +kernel)).trans c5) lq lb hr hm hne hQ (by (first | lia | omega)) (by (first | lia | omega)) H₈ fun h₉ z => ?_
    obtain ⟨m', oq', ob', vq', vb', fam', rs', bs', z1, z2, z3, z4, z5, z6, z7, z8, z9⟩ := z
    exact ⟨mu rs', z7, m', oq', ob', vq', vb', fam', rs', bs', rfl, fun y hy => (z1 y hy).trans (kp y hy), z2, z3, z4, z5, z6, by (first | lia | omega), z9⟩
end
end Mine

end
section
open PySem PySem.W PyProof.Rows PySem.Calls
set_option Elab.async false
set_option linter.unusedVariables false
set_option maxRecDepth 100000
set_option maxHeartbeats 4000000
namespace Mine
section
variable {prog : Program} {w : World} {A : Around} {h h' h₀ h₁ : Heap} {env cenv : Env} {D : List Addr} {m : Str → Option Value} {l lo : List (Addr × Obj)}
noncomputable def compTests (env : Env) (ifs : List PySem.Expr) : Sem Bool := forIn ifs true fun c r => if r = true then do let ok ← isTrue c env (eval c env); pure (ForInStep.yield ok) else pure (ForInStep.yield r)
theorem t_tests0 {Q : Bool → Heap → Prop} (q : Q true h) : T prog w A (compTests env []) h Q := fun s es => wpAny_tests_nil ⟨s.heap, s.toks, rfl, es ▸ q⟩
theorem t_tests1 {c : PySem.Expr} {Q : Bool → Heap → Prop} (t : T prog w A (isTrue c env (eval c env)) h Q) : T prog w A (compTests env [c]) h Q := fun s es => wpAny_tests_one (t s es)
noncomputable def CompBody (prog : Program) (w : World) (A : Around) (cenv : Env) (target : PySem.Expr) (ifs : List PySem.Expr) (elt : PySem.Expr) (acc : Value) (v : Value) (h : Heap) (R : Heap → Prop) : Prop :=
  T prog w A (assign target cenv v) h fun _ h₂ => T prog w A (compTests cenv ifs) h₂ fun ok h₃ => if ok = true then T prog w A (eval elt cenv) h₃ fun x h₄ => T prog w A (call (.builtin "list.append") [acc, x]) h₄ fun _ h₅ => R h₅ else R h₃
theorem CompBody.mono {target elt : PySem.Expr} {ifs : List PySem.Expr} {acc v : Value} {R R' : Heap → Prop} (x : CompBody prog w A cenv target ifs elt acc v h R) (q : ∀ h, R h → R' h) : CompBody prog w A cenv target ifs elt acc v h R' :=
  T.mono x fun _ h₂ y => T.mono y fun ok h₃ z => by
    cases ok with
    | true => exact T.mono z fun _ h₄ z => T.mono z fun _ h₅ z => q _ z
    | false => exact q _ z
noncomputable def TL (prog : Program) (w : World) (A : Around) (c : Code) (h : Heap) (Q : Heap → Prop) : Prop :=
  ∀ s : Shared, s.heap = h → codeAny (model prog w) A c (fun r s' => ∃ h' tk, r = .ok .next ∧ s' = { s with heap := h', toks := tk } ∧ Q h') s
theorem tl_loop {elt target iter : PySem.Expr} {ifs : List PySem.Expr} {scope : Scope} {pos : Pos} {it acc : Value} {Q : Heap → Prop} (I : Nat → Heap → Prop)
    (turn : ∀ n h, I n h → T prog w A (pyNext it) h fun r h₁ => match r with
      | none => Q h₁
      | some v => T prog w A (letOwnedTupleGo target it v) h₁ fun _ h₂ => CompBody prog w A cenv target ifs elt acc v h₂ fun h₃ => ∃ m, m < n ∧ I m h₃)
    (n : Nat) (hI : I n h) : TL prog w A (.compLoop (.ListComp elt [⟨target, iter, ifs, 0⟩] scope pos) 0 it acc cenv) h Q := fun s es => by
  subst es
  refine codeAny_loop rfl (fun n s' => ∃ h' tk, s' = { s with heap := h', toks := tk } ∧ I n h') ?_ n ⟨s.heap, s.toks, rfl, hI⟩
  rintro n s' ⟨h', tk, rfl, hI⟩
  show wpAny _ A ((compTurn (.ListComp elt [⟨target, iter, ifs, 0⟩] scope pos) 0 it acc cenv).onRaise (fun x => do noteFrame x cenv; theTreesLotGoes x)) _ _ _
  refine wpAny_noted ?_
  rw [compTurn_list]
  refine wpAny_bind (wpAny_standAt (wpAny_bind (wpAny_mono (turn n h' hI _ rfl) ?_ fun _ _ z => z.elim)))
  rintro r s₁ ⟨h₁, t₁, rfl, z⟩
  cases r with
  | none => exact wpAny_pure ⟨_, _, rfl, rfl, z⟩
  | some v =>
    refine wpAny_bind (wpAny_mono (z _ rfl) ?_ fun _ _ z => z.elim)
    rintro _ s₂ ⟨h₂, t₂, rfl, z⟩
    refine wpAny_bind (wpAny_mono (z _ rfl) ?_ fun _ _ z => z.elim)
    rintro _ s₃ ⟨h₃, t₃, rfl, z⟩
    refine wpAny_bind (wpAny_mono (z _ rfl) ?_ fun _ _ z => z.elim)
    rintro ok s₄ ⟨h₄, t₄, rfl, z⟩
    cases ok with
    | false =>
      obtain ⟨k, hk, z⟩ := z
      exact wpAny_pure ⟨rfl, k, hk, _, _, rfl, z⟩
    | true =>
      refine wpAny_bind (wpAny_bind (wpAny_mono (z _ rfl) ?_ fun _ _ z => z.elim))
      rintro y s₅ ⟨h₅, t₅, rfl, z⟩
      refine wpAny_bind (wpAny_mono (z _ rfl) ?_ fun _ _ z => z.elim)
      rintro _ s₆ ⟨h₆, t₆, rfl, k, hk, z⟩
      exact wpAny_pure (wpAny_pure ⟨rfl, k, hk, _, _, rfl, z⟩)
structure Iter (prog : Program) (w : World) (A : Around) (I : Addr) (hb : Heap) (n : Nat) (P : Nat → Value → Prop) (St : Nat → Obj → Prop) (target : PySem.Expr) : Prop where
  item : ∀ i h o, i < n → Sub [] hb h → h.get? I = some o → St i o → T prog w A (pyNext (.ref I)) h fun r h' => ∃ v o', r = some v ∧ P i v ∧ Sub [I] h h' ∧ h'.get? I = some o' ∧ St (i + 1) o'
  done : ∀ h o, Sub [] hb h → h.get? I = some o → St n o → T prog w A (pyNext (.ref I)) h fun r h' => r = none ∧ Sub [I] h h'
  go : ∀ i v h o, P i v → h.get? I = some o → St (i + 1) o → T prog w A (letOwnedTupleGo target (.ref I) v) h fun _ h' => h' = h
  self : ∀ h o, Sub [] hb h → h.get? I = some o → St 0 o → T prog w A (pyIter (.ref I)) h fun r h' => r = .ref I ∧ h' = h
structure Ext (h₁ : Heap) (l : List (Addr × Obj)) (h' : Heap) : Prop where
  sub : Sub [] h₁ h'
  led : ∀ p ∈ l, h'.get? p.1 = some p.2
  new : ∀ p ∈ l, h₁.get? p.1 = none
  nodup : (l.map (·.1)).Nodup
theorem S.ext {L : Addr} (H : S h₀ D L m lo h₁) (x : Ext h₁ l h') : S h₀ D L m (l ++ lo) h' where
  base := (H.sub x.sub).base
  ns := (H.sub x.sub).ns
  led := fun p hp => (List.mem_append.mp hp).elim (x.led p) ((H.sub x.sub).led p)
  own := fun p hp => (List.mem_append.mp hp).elim (fun q => .inr (H.fresh (x.new p q)).1) (H.own p)
  nodup := by
    rw [List.map_append, List.nodup_append]
    refine ⟨x.nodup, H.nodup, fun a ha b hb e => ?_⟩
    obtain ⟨p, hp, rfl⟩ := List.mem_map.mp ha
    exact (H.fresh (x.new p hp)).2.2 (e ▸ hb)
  offL := by
    rw [List.map_append, List.mem_append]
    rintro (q | q)
    · obtain ⟨p, hp, e⟩ := List.mem_map.mp q
      exact (H.fresh (x.new p hp)).2.1 e
    · exact H.offL q
  newL := H.newL
  dl := fun d hd => by rw [List.map_append, List.mem_append]; exact .inr (H.dl d hd)
theorem S.toExt {C : Addr} (H : S h₁ [] C m l h) (hs : Heap.SameBut C h h') : Ext h₁ l h' where
  sub := fun b o _ e => (hs.2 b (fun q => by rw [q, H.newL] at e; cases e)).trans (H.base b o (by first | walk_at "mem" | simp) e)
  led := fun p hp => (hs.2 p.1 (fun q => H.offL (q ▸ List.mem_map_of_mem hp))).trans (H.led p hp)
  new := fun p hp => (H.own p hp).resolve_left (by first | walk_at "mem" | simp)
  nodup := H.nodup
theorem tl_iter {elt target iter : PySem.Expr} {ifs : List PySem.Expr} {scope : Scope} {pos : Pos} {acc : Value} {I : Addr} {n : Nat} {P : Nat → Value → Prop} {St : Nat → Obj → Prop} {o₀ : Obj} {Q : Heap → Prop} (It : Iter prog w A I h₁ n P St target) (H : S h₁ [] cenv.locals m (l ++ [(I, o₀)]) h) (hst : St 0 o₀)
    (Inv : Nat → (Str → Option Value) → List (Addr × Obj) → Prop) (h0 : Inv 0 m l)
    (turn : ∀ i v m₁ l₁ o h, i < n → P i v → Inv i m₁ l₁ → S h₁ [] cenv.locals m₁ (l₁ ++ [(I, o)]) h → CompBody prog w A cenv target ifs elt acc v h fun h₃ => ∃ m₂ l₂, Inv (i + 1) m₂ l₂ ∧ S h₁ [] cenv.locals m₂ (l₂ ++ [(I, o)]) h₃)
    (done : ∀ m₁ l₁ h, Inv n m₁ l₁ → S h₁ [] cenv.locals m₁ l₁ h → Q h) : TL prog w A (.compLoop (.ListComp elt [⟨target, iter, ifs, 0⟩] scope pos) 0 (.ref I) acc cenv) h Q := by
  refine tl_loop (fun k h => ∃ i m₁ l₁ o, k + i = n ∧ Inv i m₁ l₁ ∧ S h₁ [] cenv.locals m₁ (l₁ ++ [(I, o)]) h ∧ St i o) ?_ n ⟨0, m, l, o₀, rfl, h0, H, hst⟩
  rintro k h ⟨i, m₁, l₁, o, hk, hi, HS, hs⟩
  by_cases hlt : i < n
  · refine (It.item i h o hlt HS.base HS.getEnd hs).mono ?_
    rintro r h₂ ⟨v, o', rfl, hP, s₂, g₂, hs'⟩
    have H₂ := HS.updEnd s₂ g₂
    refine (It.go i v h₂ o' hP g₂ hs').mono ?_
    rintro _ h₃ rfl
    refine (turn i v m₁ l₁ o' h₃ hlt hP hi H₂).mono ?_
    rintro h₄ ⟨m₂, l₂, i₂, H₄⟩
    exact ⟨k - 1, by (first | lia | omega), i + 1, m₂, l₂, o', by (first | lia | omega), i₂, H₄, hs'⟩
  · obtain rfl : i = n := by (first | lia | omega)
    refine (It.done h o HS.base HS.getEnd hs).mono ?_
    rintro r h₂ ⟨rfl, s₂⟩
    exact done m₁ l₁ h₂ hi ((HS.dropEnd (by first | walk_at "mem" | simp)).keepBut s₂ fun b hb => HS.ownEnd (by first | walk_at "mem" | simp) b (by simpa using hb))
theorem cenv_ok {scope : Scope} {cl : List (Str × Addr)} {C : Addr} (e : EnvOk env) (hk : scope.kind = .function) : EnvOk (compEnvC scope cl C env) := ⟨hk, e.glob, e.blt, by unfold interactive; simp [compEnvC, relabel, hk]⟩
theorem relabel_of {env' : Env} {scope : Scope} (hs : env.scope = env'.scope) : relabel scope env = relabel scope env' := by
  have h2 : ∀ x, env.kindOf x = env'.kindOf x := fun x => by unfold Env.kindOf; rw [hs]
  unfold relabel
  simp only [hs, h2]
theorem comp_core {elt target iter : PySem.Expr} {ifs : List PySem.Expr} {scope : Scope} {pos : Pos} {cl : List (Str × Addr)} {s : Shared} {h₂ : Heap} {t₂ : Nat} {I : Addr} {n : Nat} {P : Nat → Value → Prop} {oI : Obj} {St : Nat → Obj → Prop} {E : Value → Shared → Prop} {RR : Value → Addr → Result → Shared → Prop} (e : EnvOk env) (hcell' : ∀ y ∈ scope.names, y.2 ≠ .cell) (hkind : scope.kind = .function)
    (sub₂ : Sub [] h₁ h₂) (nI : h₁.get? I = none) (gI : h₂.get? I = some oI) (st0 : St 0 oI) (It : Iter prog w A I h₁ n P St target)
    (body : ∀ (env' : Env) acc oacc, EnvOk env' → env'.scope = relabel scope env → env'.cells = cl → IsLst oacc [] → ∃ Inv : Nat → (Str → Option Value) → List (Addr × Obj) → Prop, Inv 0 (fun _ => none) [(acc, oacc)] ∧
        (∀ i v m₁ l₁ I o h, i < n → P i v → Inv i m₁ l₁ → S h₁ [] env'.locals m₁ (l₁ ++ [(I, o)]) h → CompBody prog w A env' target ifs elt (.ref acc) v h fun h₃ => ∃ m₂ l₂, Inv (i + 1) m₂ l₂ ∧ S h₁ [] env'.locals m₂ (l₂ ++ [(I, o)]) h₃) ∧
        (∀ m₁ l₁ h' tk, Inv n m₁ l₁ → S h₁ [] env'.locals m₁ l₁ h' → RR (.ref acc) env'.locals (.ok .next) { s with heap := h', toks := tk })) :
    wpAny (model prog w) A (newList []) (fun acc s₃ => wpAny (model prog w) A (newFunctionEnv scope env.globals cl [] env.qual none .none (some env)) (fun cenv s₄ =>
      codeAny (model prog w) A (.compStart (.ListComp elt [⟨target, iter, ifs, 0⟩] scope pos) 0 (.ref I) acc { cenv with scope := relabel scope env }) (RR acc cenv.locals) s₄) E s₃) E { s with heap := h₂, toks := t₂ } := by
  refine wpAny_newObj_type (wpAny_newFunctionEnv hcell' (by intro y hy; simp at hy) (fun h₃ hns₃ hsb₃ => ?_) hkind)
  dsimp only at hns₃ hsb₃ ⊢
  generalize hH2 : h₂.push { cls := .type "list", dict := none, data := .seq ([] : List Value).toArray } = H2 at hns₃ hsb₃ ⊢
  have gA : H2.get? h₂.objs.size = some { cls := .type "list", dict := none, data := .seq ([] : List Value).toArray } := by rw [← hH2]; exact get_push_self _ _
  have s23 : Sub [] h₂ H2 := by rw [← hH2]; exact Sub.push _ _
  have nC : H2.get? H2.objs.size = none := get_size_none _
  have s34 : Sub [] H2 h₃ := fun b o _ eb => by
    have hb : b ≠ H2.objs.size := fun q => by rw [q, nC] at eb; cases eb
    exact hsb₃.extBut b o hb (Heap.get?_push_of_some _ eb)
  have nA : h₂.get? h₂.objs.size = none := get_size_none _
  generalize hAa : h₂.objs.size = aA at *
  generalize hCc : H2.objs.size = aC at *
  have none1 : ∀ {a}, h₂.get? a = none → h₁.get? a = none := fun {a} ha => by
    cases q : h₁.get? a with
    | none => rfl
    | some o => rw [sub₂ a o (by first | walk_at "mem" | simp) q] at ha; cases ha
  have none2 : h₂.get? aC = none := by
    cases q : h₂.get? aC with
    | none => rfl
    | some o => rw [s23 aC o (by first | walk_at "mem" | simp) q] at nC; cases nC
  have hAI : aA ≠ I := fun q => by rw [q, gI] at nA; cases nA
  have hAC : aA ≠ aC := fun q => by rw [q, nC] at gA; cases gA
  have hIC : I ≠ aC := fun q => by rw [q, none2] at gI; cases gI
  have H : S h₁ [] aC (fun _ => none) ([(aA, { cls := .type "list", dict := none, data := .seq ([] : List Value).toArray })] ++ [(I, oI)]) h₃ := {
    base := (sub₂.trans s23).trans s34
    ns := hns₃
    led := fun p hp => by
      rcases List.mem_append.mp hp with hp | hp
      · obtain rfl := List.mem_singleton.mp hp; exact s34 _ _ (by first | walk_at "mem" | simp) gA
      · obtain rfl := List.mem_singleton.mp hp; exact s34 _ _ (by first | walk_at "mem" | simp) (s23 _ _ (by first | walk_at "mem" | simp) gI)
    own := fun p hp => by
      rcases List.mem_append.mp hp with hp | hp
      · obtain rfl := List.mem_singleton.mp hp; exact .inr (none1 nA)
      · obtain rfl := List.mem_singleton.mp hp; exact .inr nI
    nodup := by simp [hAI]
    offL := by simp [hAC.symm, hIC.symm]
    newL := none1 none2
    dl := by simp }
  obtain ⟨Inv, i0, turn, fin⟩ := body (compEnvC scope cl aC env) aA _ (cenv_ok e hkind) rfl rfl ⟨0, rfl⟩
  have loop : TL prog w A (.compLoop (.ListComp elt [⟨target, iter, ifs, 0⟩] scope pos) 0 (.ref I) (.ref aA) (compEnvC scope cl aC env)) h₃ fun h' => ∃ m₁ l₁, Inv n m₁ l₁ ∧ S h₁ [] aC m₁ l₁ h' :=
    tl_iter (cenv := compEnvC scope cl aC env) It H st0 Inv i0 (fun i v m₁ l₁ o h hi hP hI HS => turn i v m₁ l₁ I o h hi hP hI HS) fun m₁ l₁ h hI HS => ⟨m₁, l₁, hI, HS⟩
  have post : ∀ s₄ : Shared, (∃ tk, s₄ = { s with heap := h₃, toks := tk }) → codeAny (model prog w) A (.compLoop (.ListComp elt [⟨target, iter, ifs, 0⟩] scope pos) 0 (.ref I) (.ref aA) (compEnvC scope cl aC env)) (RR (.ref aA) aC) s₄ := by
    rintro s₄ ⟨tk4, rfl⟩
    refine codeAny_mono (loop _ rfl) ?_
    rintro r s' ⟨h', tk, rfl, rfl, m₁, l₁, hI, HS⟩
    exact fin m₁ l₁ h' tk hI HS
  refine codeAny_compStart_list (post _ ⟨_, rfl⟩) ?_
  refine wpAny_mono (It.self h₃ oI H.base H.getEnd st0 _ rfl) ?_ fun _ _ z => z.elim
  rintro it' s₅ ⟨h₅, t₅, rfl, rfl, rfl⟩
  exact post _ ⟨_, rfl⟩
theorem comp_looks {scope : Scope} (hcell : (scope.names.all fun y => y.2 != .cell) = true) (hnames : (scope.names.all fun y => y.2 != .local || decide (scope.names.lookup y.1 = some .local)) = true) :
    (∀ y ∈ scope.names, y.2 ≠ .cell) ∧ ∀ y ∈ scope.names, y.2 = .local → scope.names.lookup y.1 = some .local :=
  ⟨fun y hy => by simpa using List.all_eq_true.mp hcell y hy, fun y hy hl => by
    have := List.all_eq_true.mp hnames y hy
    simpa [hl] using this⟩
theorem t_ListComp {elt target iter : PySem.Expr} {ifs : List PySem.Expr} {scope : Scope} {pos : Pos} {cl : List (Str × Addr)} {Q : Value → Heap → Prop} (e : EnvOk env) (hclos : closureFor scope env = pure cl) (hcell : (scope.names.all fun y => y.2 != .cell) = true) (hkind : scope.kind = .function)
    (hnames : (scope.names.all fun y => y.2 != .local || decide (scope.names.lookup y.1 = some .local)) = true)
    (x : T prog w A (eval iter env) h fun xv h₁ => ∃ n P, (T prog w A (pyIter xv) h₁ fun it h₂ => ∃ I o St, it = .ref I ∧ Sub [] h₁ h₂ ∧ h₁.get? I = none ∧ h₂.get? I = some o ∧ St 0 o ∧ Iter prog w A I h₁ n P St target) ∧
      ∀ (env' : Env) acc oacc, EnvOk env' → env'.scope = relabel scope env → env'.cells = cl → IsLst oacc [] → ∃ Inv : Nat → (Str → Option Value) → List (Addr × Obj) → Prop, Inv 0 (fun _ => none) [(acc, oacc)] ∧
        (∀ i v m₁ l₁ I o h, i < n → P i v → Inv i m₁ l₁ → S h₁ [] env'.locals m₁ (l₁ ++ [(I, o)]) h → CompBody prog w A env' target ifs elt (.ref acc) v h fun h₃ => ∃ m₂ l₂, Inv (i + 1) m₂ l₂ ∧ S h₁ [] env'.locals m₂ (l₂ ++ [(I, o)]) h₃) ∧
        (∀ m₁ l₁ h', Inv n m₁ l₁ → Ext h₁ l₁ h' → Q (.ref acc) h'))
    (hs : ∀ x, foldedSetIterable iter env x = pure x := by intro _; rfl) : T prog w A (eval (.ListComp elt [⟨target, iter, ifs, 0⟩] scope pos) env) h Q := fun s es => by
  rw [eval_ListComp]
  obtain ⟨hcell', hnames'⟩ := comp_looks hcell hnames
  refine wpAny_comprehension_free (use := none) rfl hs hclos hkind hnames' (wpAny_mono (x s es) ?_ fun _ _ z => z)
  rintro xv s₁ ⟨h₁, t₁, rfl, n, P, hit, body⟩
  refine wpAny_mono (hit _ rfl) ?_ fun _ _ z => z
  rintro it s₂ ⟨h₂, t₂, rfl, I, oI, St, rfl, sub₂, nI, gI, st0, It⟩
  refine comp_core (s := s) (RR := fun acc C => compPost (model prog w) A (fun _ _ => False) none (fun a s' => ∃ h' tk, s' = { s with heap := h', toks := tk } ∧ Q a h') acc C) e hcell' hkind sub₂ nI gI st0 It ?_
  intro env' acc oacc e' sc' cl' lacc
  obtain ⟨Inv, i0, turn, fin⟩ := body env' acc oacc e' sc' cl' lacc
  exact ⟨Inv, i0, turn, fun m₁ l₁ h' tk hI HS => ⟨m₁, HS.ns, fun h'' hs'' => ⟨h'', tk, rfl, fin m₁ l₁ h'' hI (HS.toExt hs'')⟩⟩⟩
theorem t_AssignComp {elt target iter : PySem.Expr} {ifs : List PySem.Expr} {scope : Scope} {pos py spos : Pos} {y : Str} {cl : List (Str × Addr)} {Q : Flow → Heap → Prop} (e : EnvOk env) (hsw : swapsWith (.ListComp elt [⟨target, iter, ifs, 0⟩] scope pos) (some (.Name y py)) spos.line env = pure true) (hclos : closureFor scope env = pure cl) (hcell : (scope.names.all fun y => y.2 != .cell) = true) (hkind : scope.kind = .function)
    (hnames : (scope.names.all fun y => y.2 != .local || decide (scope.names.lookup y.1 = some .local)) = true) (hy : env.kindOf y = some .local)
    (x : T prog w A (eval iter env) h fun xv h₁ => ∃ n P m lo, S h₀ D env.locals m lo h₁ ∧ (T prog w A (pyIter xv) h₁ fun it h₂ => ∃ I o St, it = .ref I ∧ Sub [] h₁ h₂ ∧ h₁.get? I = none ∧ h₂.get? I = some o ∧ St 0 o ∧ Iter prog w A I h₁ n P St target) ∧
      ∀ (env' : Env) acc oacc, EnvOk env' → env'.scope = relabel scope env → env'.cells = cl → IsLst oacc [] → ∃ Inv : Nat → (Str → Option Value) → List (Addr × Obj) → Prop, Inv 0 (fun _ => none) [(acc, oacc)] ∧
        (∀ i v m₁ l₁ I o h, i < n → P i v → Inv i m₁ l₁ → S h₁ [] env'.locals m₁ (l₁ ++ [(I, o)]) h → CompBody prog w A env' target ifs elt (.ref acc) v h fun h₃ => ∃ m₂ l₂, Inv (i + 1) m₂ l₂ ∧ S h₁ [] env'.locals m₂ (l₂ ++ [(I, o)]) h₃) ∧
        (∀ m₁ l₁ h', Inv n m₁ l₁ → S h₀ D env.locals (upd m y (.ref acc)) (l₁ ++ lo) h' → Q .next h'))
    (hs : ∀ x, foldedSetIterable iter env x = pure x := by intro _; rfl) : T prog w A (exec (.Assign [.Name y py] (.ListComp elt [⟨target, iter, ifs, 0⟩] scope pos) spos) env) h Q := fun s es => by
  obtain ⟨hcell', hnames'⟩ := comp_looks hcell hnames
  rw [exec_Assign_Name_used _ _ _ _ hsw]
  refine wpAny_bind (wpAny_standAt (wpAny_bind ?_))
  show wpAny _ A (do let _ ← comprehension (.ListComp elt [⟨target, iter, ifs, 0⟩] scope pos) scope env _ (newList []) false (eval iter env) (some (assign (.Name y py) env))) _ _ s
  refine wpAny_bind (wpAny_mono (wpAny_comprehension_free (use := some (assign (.Name y py) env)) (Q := fun _ s' => ∃ h' tk, s' = { s with heap := h', toks := tk } ∧ Q .next h') rfl hs hclos hkind hnames' (wpAny_mono (x s es) ?_ fun _ _ z => z)) (fun _ s' hq => wpAny_pure (wpAny_pure hq)) fun _ _ z => z)
  rintro xv s₁ ⟨h₁, t₁, rfl, n, P, m, lo, Ho, hit, body⟩
  refine wpAny_mono (hit _ rfl) ?_ fun _ _ z => z
  rintro it s₂ ⟨h₂, t₂, rfl, I, oI, St, rfl, sub₂, nI, gI, st0, It⟩
  refine comp_core (s := s) (RR := fun acc C => compPost (model prog w) A (fun _ _ => False) (some (assign (.Name y py) env)) (fun _ s' => ∃ h' tk, s' = { s with heap := h', toks := tk } ∧ Q .next h') acc C) e hcell' hkind sub₂ nI gI st0 It ?_
  intro env' acc oacc e' sc' cl' lacc
  obtain ⟨Inv, i0, turn, fin⟩ := body env' acc oacc e' sc' cl' lacc
  refine ⟨Inv, i0, turn, fun m₁ l₁ h' tk hI HS => ?_⟩
  have X := HS.toExt (Heap.SameBut.refl _ _)
  have HO := Ho.ext X
  have nC : env'.locals ≠ env.locals := fun q => by
    obtain ⟨oL, _, _, e1, _⟩ := Ho.ns
    rw [← q, HS.newL] at e1; cases e1
  have Cn := Ho.fresh HS.newL
  have Coff : env'.locals ∉ (l₁ ++ lo).map (·.1) := by
    rw [List.map_append, List.mem_append]
    exact fun q => q.elim HS.offL Cn.2.2
  show wpAny _ _ (assign (.Name y py) env (.ref acc)) _ _ _
  refine wpAny_assign_Name (wpAny_storeName_local (s := { s with heap := h', toks := tk }) hy HO.ns (fun h'' hn'' hs'' => ?_) (notTop e))
  refine ⟨m₁, HS.ns.sameBut hs'' nC, fun g₃ hs₃ => ⟨g₃, _, rfl, fin m₁ l₁ g₃ hI ?_⟩⟩
  have HU := HO.store hn'' hs''
  refine HU.keepBut (Sub.same hs₃) fun b hb => ?_
  obtain rfl : b = env'.locals := by simpa using hb
  exact ⟨fun q => Coff (HO.dl _ q), Cn.1, nC, Coff⟩
end
end Mine

end
section
open PySem PySem.W PyProof.Rows PySem.Calls
set_option Elab.async false
set_option linter.unusedVariables false
set_option maxRecDepth 100000
set_option maxHeartbeats 4000000
namespace Mine
section
variable {prog : Program} {w : World} {A : Around} {h h' h₀ h₁ : Heap} {env cenv : Env} {D : List Addr} {m : Str → Option Value} {l lo : List (Addr × Obj)} {K : Frag}
noncomputable def litS (ax : Addr) (i : Nat) (o : Obj) : Prop := o.cls = .type "list_iterator" ∧ o.data = .fields #[.ref ax, .int i 0]
theorem Iter.list {I ax : Addr} {hb : Heap} {vs : List Value} {target : PySem.Expr} (hh : A.handled = none) (hl : hb.IsList ax vs.toArray)
    (go : ∀ i v h o, vs[i]? = some v → h.get? I = some o → litS ax (i + 1) o → T prog w A (letOwnedTupleGo target (.ref I) v) h fun _ h' => h' = h) : Iter prog w A I hb vs.length (fun i v => vs[i]? = some v) (litS ax) target where
  item := fun i h o hi sb g st s es => by
    subst es
    have hit : s.heap.IsListIter I ax i := ⟨o, g, st.1, st.2⟩
    refine wpAny_pyNext_list_item hit (hl.at fun o eo => sb _ _ (by first | walk_at "mem" | simp) eo) (x := vs[i]) (by simp [hi]) fun h' hit' hs' => ?_
    obtain ⟨o', g', c', d'⟩ := hit'
    exact ⟨h', s.toks, rfl, vs[i], o', rfl, by simp [hi], Sub.same hs', g', c', d'⟩
  done := fun h o sb g st s es => by
    subst es
    have hit : s.heap.IsListIter I ax vs.length := ⟨o, g, st.1, st.2⟩
    exact wpAny_pyNext_list_end hh hit (hl.at fun o eo => sb _ _ (by first | walk_at "mem" | simp) eo) (by first | walk_at "mem" | simp) fun h' he => ⟨h', s.toks, rfl, rfl, Sub.ext he⟩
  go := go
  self := fun h o sb g st s es => by
    subst es
    have hit : s.heap.IsListIter I ax 0 := ⟨o, g, st.1, st.2⟩
    exact wpAny_pyIter_listiter hit ⟨s.heap, s.toks, rfl, rfl, rfl⟩
theorem t_iterList {ax : Addr} {vs : List Value} {target : PySem.Expr} (hh : A.handled = none) (hl : h₁.IsList ax vs.toArray)
    (go : ∀ I i v h o, vs[i]? = some v → h.get? I = some o → litS ax (i + 1) o → T prog w A (letOwnedTupleGo target (.ref I) v) h fun _ h' => h' = h) :
    T prog w A (pyIter (.ref ax)) h₁ fun it h₂ => ∃ I o St, it = .ref I ∧ Sub [] h₁ h₂ ∧ h₁.get? I = none ∧ h₂.get? I = some o ∧ St 0 o ∧ Iter prog w A I h₁ vs.length (fun i v => vs[i]? = some v) St target := fun s es => by
  subst es
  refine wpAny_pyIter_list hl ⟨_, s.toks, rfl, s.heap.objs.size, _, litS ax, rfl, Sub.push _ _, get_size_none _, get_push_self _ _, ⟨rfl, rfl⟩, Iter.list hh hl (go _)⟩
theorem t_iterListN {ax : Addr} {vs : List Value} {x : Str} {px : Pos} (hh : A.handled = none) (hl : h₁.IsList ax vs.toArray) :
    T prog w A (pyIter (.ref ax)) h₁ fun it h₂ => ∃ I o St, it = .ref I ∧ Sub [] h₁ h₂ ∧ h₁.get? I = none ∧ h₂.get? I = some o ∧ St 0 o ∧ Iter prog w A I h₁ vs.length (fun i v => vs[i]? = some v) St (.Name x px) :=
  t_iterList hh hl fun _ _ _ _ _ _ _ _ => T.eq rfl (T.pure rfl)
theorem t_iterListT {ax : Addr} {vs : List Value} {elts : List PySem.Expr} {k : Nat} {px : Pos} (hh : A.handled = none) (hl : h₁.IsList ax vs.toArray) (hv : ∀ v ∈ vs, ∃ a, v = .ref a) :
    T prog w A (pyIter (.ref ax)) h₁ fun it h₂ => ∃ I o St, it = .ref I ∧ Sub [] h₁ h₂ ∧ h₁.get? I = none ∧ h₂.get? I = some o ∧ St 0 o ∧ Iter prog w A I h₁ vs.length (fun i v => vs[i]? = some v) St (.Tuple elts k px) :=
  t_iterList hh hl fun I i v h o hvi g st s es => by
    subst es
    obtain ⟨a, rfl⟩ := hv v (List.mem_of_getElem? hvi)
    exact wpAny_letOwnedTupleGo_listiter ⟨o, g, st.1, st.2⟩ ⟨s.heap, s.toks, rfl, rfl⟩
noncomputable def ritO (a b : Int) (i : Nat) : Obj := { cls := .type "range_iterator", dict := none, data := .fields #[rawInt (a + (i : Int)), rawInt (b - a - (i : Int)), rawInt 1], slots := #[] }
theorem Iter.range {I : Addr} {hb : Heap} {a b : Int} {x : Str} {px : Pos} (hh : A.handled = none) (hab : a ≤ b) : Iter prog w A I hb (b - a).toNat (fun i v => ∃ t, v = .int (a + (i : Int)) t) (fun i o => o = ritO a b i) (.Name x px) where
  item := fun i h o hi sb g st s es => by
    subst es st
    have hit : IsRangeIter s.heap I (a + (i : Int)) (b - a - (i : Int)) 1 := g
    refine wpAny_pyNext_range_item hit (by (first | lia | omega)) fun h' hit' hs' => ⟨h', _, rfl, _, _, rfl, ⟨_, rfl⟩, Sub.same hs', hit', ?_⟩
    have e1 : a + ((i + 1 : Nat) : Int) = a + (i : Int) + 1 := by (first | lia | omega)
    have e2 : b - a - ((i + 1 : Nat) : Int) = b - a - (i : Int) - 1 := by (first | lia | omega)
    rw [ritO, e1, e2]
  done := fun h o sb g st s es => by
    subst es st
    have hit : IsRangeIter s.heap I (a + (((b - a).toNat : Nat) : Int)) (b - a - (((b - a).toNat : Nat) : Int)) 1 := g
    exact wpAny_pyNext_range_end hh hit (by (first | lia | omega)) fun h' he => ⟨h', s.toks, rfl, rfl, Sub.ext he⟩
  go := fun _ _ _ _ _ _ _ => T.eq rfl (T.pure rfl)
  self := fun h o sb g st s es => by
    subst es st
    refine (Walks.range (prog := prog) (w := w) hh I a 1 (b - a).toNat).self 0 s _ _ ?_ ⟨s.heap, s.toks, rfl, rfl, rfl⟩
    show s.heap.get? I = _
    rw [g]
    have e2 : ((b - a).toNat : Int) - ((0 : Nat) : Int) = b - a - ((0 : Nat) : Int) := by (first | lia | omega)
    have e1 : a + ((0 : Nat) : Int) * 1 = a + ((0 : Nat) : Int) := by (first | lia | omega)
    rw [ritO, e1, e2]
theorem t_iterRange {a b : Int} {x : Str} {px : Pos} {t u : Tok} (hh : A.handled = none) (ha : -1000000 ≤ a) (hab : a ≤ b) (hb : b ≤ 1000000) {Q : Value → Heap → Prop}
    (q : ∀ r h₁, Sub [] h h₁ → (T prog w A (pyIter r) h₁ fun it h₂ => ∃ I o St, it = .ref I ∧ Sub [] h₁ h₂ ∧ h₁.get? I = none ∧ h₂.get? I = some o ∧ St 0 o ∧ Iter prog w A I h₁ (b - a).toNat (fun i v => ∃ t, v = .int (a + (i : Int)) t) St (.Name x px)) → Q r h₁) :
    T prog w A (call (.type "range") [.int a t, .int b u]) h Q := fun s es => by
  subst es
  refine call_range_2 ⟨_, _, rfl, q _ _ (Sub.push _ _) fun s₁ es₁ => ?_⟩
  have hR := IsRange.new s.heap a b 1 t u s.toks
  rw [← es₁] at hR
  have hsz : Builtin.Range.rangeSize a b 1 = b - a := by rw [rangeSize_one]; split <;> (first | lia | omega)
  refine wpAny_pyIter_range hR (small_one (by (first | lia | omega)) (by (first | lia | omega)) (by (first | lia | omega)) (by (first | lia | omega))) ⟨_, s₁.toks, rfl, s₁.heap.objs.size, ritO a b 0, (fun i o => o = ritO a b i), rfl, ?_, ?_, ?_, rfl, Iter.range hh hab⟩
  · rw [← es₁]; exact Sub.push _ _
  · rw [← es₁]; exact get_size_none _
  · have := get_push_self s₁.heap { cls := .type "range_iterator", data := .fields #[rawInt a, rawInt (Builtin.Range.rangeSize a b 1), rawInt 1] }
    rw [this, hsz, ritO]
    simp

noncomputable def IsCel (o : Obj) (v : Option Value) : Prop := o.data = .cell v
theorem t_loadCell {x : Str} {c : Addr} {o : Obj} {v : Value} {Q : Value → Heap → Prop} (e : EnvOk env) (hk : env.kindOf x = some .cell) (hc : env.cells.lookup x = some c) (ho : h.get? c = some o) (hv : IsCel o (some v)) (q : Q v h) : T prog w A (loadName env x) h Q := fun s es => by
  subst es
  exact wpAny_loadName_cell e.kind hk hc ⟨o, ho, hv⟩ ⟨s.heap, s.toks, rfl, q⟩
theorem t_NameC {x : Str} {pos : Pos} {c : Addr} {o : Obj} {v : Value} {Q : Value → Heap → Prop} (e : EnvOk env) (hk : env.kindOf x = some .cell) (hc : env.cells.lookup x = some c) (ho : h.get? c = some o) (hv : IsCel o (some v)) (q : Q v h) (hd : (x == ("__debug__" : Str)) = false) : T prog w A (eval (.Name x pos) env) h Q :=
  fun s es => wpAny_Name (t_loadCell e hk hc ho hv q s es) hd
theorem t_storeCell {x : Str} {c : Addr} {o : Obj} {v₀ : Option Value} {v : Value} {Q : Unit → Heap → Prop} (e : EnvOk env) (hk : env.kindOf x = some .cell) (hc : env.cells.lookup x = some c) (ho : h.get? c = some o) (hv : IsCel o v₀) (q : ∀ h' o', Sub [c] h h' → h'.get? c = some o' → IsCel o' (some v) → Q () h') : T prog w A (storeName env x v) h Q := fun s es => by
  subst es
  refine wpAny_storeName_cell e.kind hk hc ⟨o, ho, hv⟩ fun h' hc' hs' => ?_
  obtain ⟨o', g', d'⟩ := hc'
  exact ⟨h', s.toks, rfl, q h' o' (Sub.same hs') g' d'⟩
structure FnOkC (K : Frag) (f : Addr) (fd : FuncData) (body : List Stmt) : Prop where
  lk : ∃ o, K.lookup f = some o ∧ o.data = .func fd
  cd : codeIn K fd.code fd.qualname = true
  body : fd.body = .stmts body
  clo : fd.closure = []
  co : fd.scope.isCoroutine = false
  gen : fd.scope.isGenerator = false
  kind : fd.scope.kind = .function
  glob : fd.globals = mainGlobals
  blt : fd.builtins = builtinsNs
theorem FnOkC.ok {f : Addr} {fd : FuncData} {body : List Stmt} (F : FnOkC K f fd body) (L : Addr) : EnvOk (callEnvC fd L f) := ⟨F.kind, F.glob, F.blt, by
  unfold interactive; simp [callEnvC, newEnv, F.kind]⟩
theorem TC.defC {f : Addr} {fd : FuncData} {body : List Stmt} {args : List Value} {binds : List (Str × Value)} {Q : Value → Heap → Prop} {mL cM : Str → Option Value} {cs : Addr → List (Str × Addr)} (F : FnOkC K f fd body) (G : Gr K h) (hroom : A.depth < recursionLimit)
    (hbind : bindArgs fd ⟨args, []⟩ = Pure.pure binds) (hcs : ∀ L, cellsFrom (L + 1) fd.scope.names [] = cs L) (hkind : ∀ L, (binds.all fun x => decide (fd.scope.names.lookup x.1 = some .local) || (decide (fd.scope.names.lookup x.1 = some .cell) && ((cs L).lookup x.1).isSome)) = true)
    (hm : ∀ L, bindL (callEnvC fd L f).kindOf binds (fun _ => none) = mL) (hc : ∀ L, bindC (callEnvC fd L f).kindOf binds (fun _ => none) = cM) (hself : ∀ L, (cs L).all (fun p => decide ((cs L).lookup p.1 = some p.2)) = true)
    (k : ∀ h₁ L (oc : Str → Obj), (∀ p ∈ cs L, IsCel (oc p.1) (cM p.1)) → S h [] L mL ((cs L).map fun p => (p.2, oc p.1)) h₁ → T prog w (A.deeper (callEnvC fd L f)) (execs body (callEnvC fd L f)) h₁ fun fl h' => Q (match fl with | .ret v => v | _ => .none) h') : TC prog w A (.call (.ref f) ⟨args, []⟩) h Q := fun s es => by
  subst es
  obtain ⟨o, ho, hd⟩ := F.lk
  refine codeAny_call_cells hroom (G.k _ _ ho) hd G.nolimit (codeRec_of G.k F.cd) F.body hbind F.clo (fun x hx => ?_) (fun s₁ X => ?_) F.co F.gen F.kind
  · have := List.all_eq_true.mp (hkind s.heap.objs.size) x hx
    rw [hcs]
    simpa using this
  · have hL : (callEnvC fd s.heap.objs.size f).locals = s.heap.objs.size := rfl
    have hC : (callEnvC fd s.heap.objs.size f).cells = cs s.heap.objs.size := hcs _
    rw [hm, hc, hL, hC] at X
    obtain ⟨h₁, tk, rfl⟩ := X.toInCall.same
    have cell : ∀ p ∈ cs s.heap.objs.size, h₁.IsCell p.2 (cM p.1) := fun p hp => X.cell p.1 p.2 (of_decide_eq_true (List.all_eq_true.mp (hself _) p hp))
    have above : ∀ p ∈ cs s.heap.objs.size, s.heap.objs.size < p.2 := fun p hp => X.above p.1 p.2 hp
    have : ∃ oc : Str → Obj, ∀ p ∈ cs s.heap.objs.size, h₁.get? p.2 = some (oc p.1) ∧ IsCel (oc p.1) (cM p.1) := by
      refine ⟨fun n => match (cs s.heap.objs.size).lookup n with | some c => (h₁.get? c).getD { cls := .none } | none => { cls := .none }, fun p hp => ?_⟩
      have e := of_decide_eq_true (List.all_eq_true.mp (hself _) p hp)
      obtain ⟨oo, g, d⟩ := cell p hp
      simp only [e, g, Option.getD_some]
      exact ⟨trivial, d⟩
    obtain ⟨oc, hoc⟩ := this
    have H : S s.heap [] s.heap.objs.size mL ((cs s.heap.objs.size).map fun p => (p.2, oc p.1)) h₁ := {
      base := fun b o _ e => X.toInCall.keep b o e
      ns := X.toInCall.ns
      led := fun p hp => by
        obtain ⟨q, hq, rfl⟩ := List.mem_map.mp hp
        exact (hoc q hq).1
      own := fun p hp => by
        obtain ⟨q, hq, rfl⟩ := List.mem_map.mp hp
        refine .inr ?_
        cases e : s.heap.get? q.2 with
        | none => rfl
        | some o => exact absurd (Heap.lt_size e) (Nat.not_lt.mpr (Nat.le_of_lt (above q hq)))
      nodup := by
        rw [List.map_map]
        exact List.pairwise_map.mpr X.apart
      offL := fun q => by
        rw [List.map_map] at q
        obtain ⟨p, hp, e⟩ := List.mem_map.mp q
        exact absurd (above p hp) (by rw [show p.2 = s.heap.objs.size from e]; exact Nat.lt_irrefl _)
      newL := get_size_none _
      dl := by simp }
    refine wpAny_mono (k h₁ _ oc (fun p hp => (hoc p hp).2) H _ rfl) (by
      rintro fl s' ⟨h', tk', rfl, q⟩
      exact ⟨_, _, _, rfl, rfl, q⟩) fun _ _ z => z.elim
end
end Mine

end
section
open PySem PySem.W PyProof.Rows PySem.Calls PySem.SeqAt
set_option Elab.async false
set_option linter.unusedVariables false
set_option maxRecDepth 100000
set_option maxHeartbeats 4000000
namespace Mine
section
variable {prog : Program} {w : World} {A : Around} {h h' h₀ h₁ : Heap} {env cenv : Env} {D : List Addr} {m : Str → Option Value} {l lo : List (Addr × Obj)} {K : Frag}
theorem pick_clip (items : Array Value) (lo : Option Int) (b : Nat) : slicePick items lo (some (b : Int)) none = slicePick items lo (some ((min b items.size : Nat) : Int)) none := by
  have e : sliceBounds lo (some (b : Int)) none items.size = sliceBounds lo (some ((min b items.size : Nat) : Int)) none items.size := by
    simp only [sliceBounds, Option.getD_none]
    have h1 : ¬ ((b : Int) < 0) := by (first | lia | omega)
    have h2 : ¬ (((min b items.size : Nat) : Int) < 0) := by (first | lia | omega)
    simp only [h1, h2, if_false, show (1 : Int) > 0 by decide, if_true]
    congr 2
    (first | lia | omega)
  unfold slicePick
  rw [e]
theorem pick_upto (vs : List Value) (b : Nat) : (slicePick vs.toArray none (some (b : Int)) none).toList = vs.take b := by
  rw [pick_clip, slicePick_upto _ _ (by (first | lia | omega))]
  simp only [List.size_toArray]
  rcases Nat.le_total b vs.length with c | c
  · rw [Nat.min_eq_left c]
  · rw [Nat.min_eq_right c, List.take_length, List.take_of_length_le c]
theorem pick_from (vs : List Value) (a : Nat) : (slicePick vs.toArray (some (a : Int)) none none).toList = vs.drop a := by
  rcases Nat.le_total a vs.length with c | c
  · rw [slicePick_from _ _ (by simpa using c)]
  · have e : sliceBounds (some (a : Int)) none none vs.toArray.size = sliceBounds (some (vs.length : Int)) none none vs.toArray.size := by
      simp only [sliceBounds, Option.getD_none, List.size_toArray]
      have h1 : ¬ ((a : Int) < 0) := by (first | lia | omega)
      have h2 : ¬ ((vs.length : Int) < 0) := by (first | lia | omega)
      simp only [h1, h2, if_false, show (1 : Int) > 0 by decide, if_true]
      congr 1
      (first | lia | omega)
    have e2 : slicePick vs.toArray (some (a : Int)) none none = slicePick vs.toArray (some (vs.length : Int)) none none := by unfold slicePick; rw [e]
    rw [e2, slicePick_from _ _ (by first | walk_at "mem" | simp)]
    simp [List.drop_of_length_le c]
theorem t_part0 {Q : Value → Heap → Prop} (q : Q .none h) : T prog w A (evalPart none env) h Q := fun s es => wpAny_pure ⟨s.heap, s.toks, rfl, es ▸ q⟩
theorem t_part1 {e : PySem.Expr} {Q : Value → Heap → Prop} (t : T prog w A (eval e env) h Q) : T prog w A (evalPart (some e) env) h Q := t
theorem t_Slice {value : PySem.Expr} {lower upper : Option PySem.Expr} {p pos : Pos} {Q : Value → Heap → Prop}
    (x : T prog w A (eval value env) h fun o h₁ => T prog w A (evalPart lower env) h₁ fun vl h₂ => T prog w A (evalPart upper env) h₂ fun vu h₃ => ∃ a vs lo hi, o = .ref a ∧ h₃.IsList a (List.toArray vs) ∧ vs.length ≤ sizeLine ∧ IsPart vl lo ∧ IsPart vu hi ∧ ∀ r h' ob, Sub [] h₃ h' → h₃.get? r = none → h'.get? r = some ob → IsLst ob (slicePick vs.toArray lo hi none).toList → Q (.ref r) h')
    (ht : ∀ o r, letTemporaryGo value o r = pure () := by intro _ _; rfl) : T prog w A (eval (.Subscript value (.Slice lower upper none p) pos) env) h Q := fun s es => by
  refine wpAny_Subscript_list_slice (wpAny_mono (x s es) ?_ fun _ _ z => z) ht
  rintro o s₁ ⟨h₁, t₁, rfl, y⟩
  refine wpAny_mono (y _ rfl) ?_ fun _ _ z => z
  rintro vl s₂ ⟨h₂, t₂, rfl, y⟩
  refine wpAny_mono (y _ rfl) ?_ fun _ _ z => z
  rintro vu s₃ ⟨h₃, t₃, rfl, a, vs, lo, hi, rfl, hl, hz, p1, p2, q⟩
  refine ⟨a, vs.toArray, lo, hi, rfl, hl, by simpa using hz, p1, p2, _, t₃, rfl, ?_⟩
  refine q _ _ _ (fun b o _ eb => Heap.get?_push_of_some _ (Heap.get?_push_of_some _ eb)) ?_ ?_ ⟨0, by rw [Array.toArray_toList]⟩
  · cases e : h₃.get? (h₃.objs.size + 1) with
    | none => rfl
    | some o => exact absurd (Heap.lt_size e) (Nat.not_lt.mpr (Nat.le_succ _))
  · have := get_push_self (h₃.push { cls := .type "slice", data := .fields #[vl, vu, .none] }) { cls := .type "list", data := .seq (slicePick vs.toArray lo hi none) }
    rwa [Heap.size_push] at this
theorem t_addLists {a b : Addr} {vs ws : List Value} {Q : Value → Heap → Prop} (hl : h.IsList a vs.toArray) (hb : h.IsList b ws.toArray) (hsz : vs.length + ws.length ≤ sizeLine)
    (q : ∀ r h' ob, Sub [] h h' → h.get? r = none → h'.get? r = some ob → IsLst ob (vs ++ ws) → Q (.ref r) h') : T prog w A (binaryOp .Add (.ref a) (.ref b)) h Q := fun s es => by
  subst es
  obtain ⟨⟨cls, dd, data, sl⟩, ho, hc, n, hd⟩ := id hl
  obtain ⟨⟨cls2, dd2, data2, sl2⟩, ho2, hc2, n2, hd2⟩ := id hb
  simp only at hc hd hc2 hd2
  subst hc hd hc2 hd2
  have e : vs.toArray ++ ws.toArray = (vs ++ ws).toArray := by simp
  refine concat_meets ⟨_, ho, rfl⟩ ⟨_, ho2, rfl⟩ noFill_list_add seq_list_add PySem.F.slot_list_add PySem.F.entry_list_add (PySem.F.args_list_add_2 _ _) (list_addW a b vs.toArray ws.toArray n n2 dd dd2 sl sl2 (by simpa using hsz)) ⟨ho, ho2, ?_⟩
  rw [e]
  exact ⟨_, s.toks, rfl, q _ _ _ (Sub.push _ _) (get_size_none _) (get_push_self _ _) ⟨0, rfl⟩⟩
theorem foldl_rep (v : Value) : ∀ (k : Nat) (acc : Array Value), List.foldl (fun x1 x2 => x1 ++ x2) acc (List.replicate k #[v]) = (acc.toList ++ List.replicate k v).toArray
  | 0, acc => by simp
  | k + 1, acc => by
    rw [List.replicate_succ, List.foldl_cons, foldl_rep v k]
    simp [List.replicate_succ]
theorem t_mulList {L a : Addr} {v : Value} {k : Int} {u : Tok} {o : Obj} {Q : Value → Heap → Prop} (H : S h₀ D L m l h) (ho : h.get? a = some o) (hl : IsLst o [v]) (hk : k ≤ 100000) (hk0 : -100000 ≤ k)
    (q : ∀ r h' ob, S h₀ D L m ((r, ob) :: l) h' → (∀ b o, b ≠ L → h.get? b = some o → h'.get? b = some o) → h.get? r = none → IsLst ob (List.replicate k.toNat v) → Q (.ref r) h') : T prog w A (binaryOp .Mult (.ref a) (.int k u)) h Q := fun s es => by
  subst es
  obtain ⟨n, rfl⟩ := hl
  refine mul_list (frAll H.ns) newsAll ho (by (first | lia | omega)) (by (first | lia | omega)) (by simp; (first | lia | omega)) fun h' F' N' => ⟨h', s.toks, rfl, ?_⟩
  have sb := sub_of_news (extra := [_]) N'
  have H' := H.frame sb F'.ns
  have g := (N' _ (.head _)).1
  have nr : s.heap.get? s.heap.objs.size = none := get_size_none _
  have fr := H.fresh nr
  have H'' := (H'.track g fr.1 fr.2.1 fr.2.2).perm (List.perm_append_singleton _ _)
  refine q _ h' _ H'' (fun b o nb eb => sb b o (by simpa using nb) eb) nr ⟨0, ?_⟩
  have e1 : ([v] : List Value).toArray.isEmpty = false := rfl
  have e2 : ([v] : List Value).toArray = #[v] := rfl
  rw [e1, e2]
  simp only [Bool.false_eq_true, if_false, foldl_rep]
  simp
theorem t_maxList {a : Addr} {vs : List Value} {ns : List Int} {L : Addr} {Q : Value → Heap → Prop} (hh : A.handled = none) (H : S h₀ D L m l h) (hl : h.IsList a vs.toArray) (hi : IntsAre vs ns) (hne : 0 < ns.length)
    (q : ∀ h' M t, S h₀ D L m l h' → (∀ b o, b ≠ L → h.get? b = some o → h'.get? b = some o) → M ∈ ns → (∀ a ∈ ns, a ≤ M) → Q (.int M t) h') : T prog w A (call (.builtin "max") [.ref a]) h Q := fun s es => by
  subst es
  refine max_list_N hh (frAll H.ns) newsAll hl hi hne fun h' M t tk F' N' h1 h2 => ⟨h', tk, rfl, ?_⟩
  have sb := sub_of_news (extra := []) N'
  exact q h' M t (H.frame sb F'.ns) (fun b o nb eb => sb b o (by simpa using nb) eb) h1 h2
theorem ints_eqAt {vs us : List Value} {ns ms : List Int} (hv : IntsAre vs ns) (hu : IntsAre us ms) {s : Shared} {B : Around} (j : Nat) (h1 : j < vs.toArray.size) (h2 : j < us.toArray.size) : EqAt B s vs.toArray[j] us.toArray[j] (decide (ns[j]? = ms[j]?)) := by
  have e1 := hv.length
  have e2 := hu.length
  simp only [List.size_toArray] at h1 h2
  obtain ⟨t, g1⟩ := hv.get j (ns[j]'(by (first | lia | omega))) (by first | walk_at "mem" | simp)
  obtain ⟨u, g2⟩ := hu.get j (ms[j]'(by (first | lia | omega))) (by first | walk_at "mem" | simp)
  have a1 : vs.toArray[j]'(by simpa using h1) = .int (ns[j]'(by (first | lia | omega))) t := by
    simp only [List.getElem_toArray]
    rw [List.getElem?_eq_getElem h1] at g1; exact Option.some.inj g1
  have a2 : us.toArray[j]'(by simpa using h2) = .int (ms[j]'(by (first | lia | omega))) u := by
    simp only [List.getElem_toArray]
    rw [List.getElem?_eq_getElem h2] at g2; exact Option.some.inj g2
  rw [a1, a2]
  intro prog w E Q q
  refine wpAny_eqBool_int ?_
  have : (ns[j]'(by (first | lia | omega)) == ms[j]'(by (first | lia | omega))) = decide (ns[j]? = ms[j]?) := by
    rw [List.getElem?_eq_getElem (by (first | lia | omega)), List.getElem?_eq_getElem (by (first | lia | omega))]
    by_cases c : ns[j]'(by (first | lia | omega)) = ms[j]'(by (first | lia | omega)) <;> simp [c]
  rw [this]; exact q
theorem all_eq {α : Type} [DecidableEq α] {xs ys : List α} (hl : xs.length = ys.length) : (List.range xs.length).all (fun j => decide (xs[j]? = ys[j]?)) = decide (xs = ys) := by
  by_cases c : xs = ys
  · subst c; simp
  · have : ¬ ∀ j, xs[j]? = ys[j]? := fun q => c (List.ext_getElem? q)
    rw [decide_eq_false c, List.all_eq_false]
    obtain ⟨j, hj⟩ := Classical.not_forall.mp this
    refine ⟨j, ?_, by simpa using hj⟩
    rw [List.mem_range]
    rcases Nat.lt_or_ge j xs.length with y | y
    · exact y
    · exact absurd (by rw [List.getElem?_eq_none y, List.getElem?_eq_none (by (first | lia | omega))]) hj
theorem t_neInts {a b : Addr} {vs us : List Value} {ns ms : List Int} {Q : Value → Heap → Prop} (hu : A.units < cLine) (hl : h.IsList a vs.toArray) (hb : h.IsList b us.toArray) (hv : IntsAre vs ns) (hw : IntsAre us ms) (q : Q (.bool (!decide (ns = ms))) h) : T prog w A (compareOp .NotEq (.ref a) (.ref b)) h Q := fun s es => by
  subst es
  have e1 := hv.length
  have e2 := hw.length
  by_cases c : vs.length = us.length
  · refine RcNeAt.lists hl hb (by simpa using c) hu (fun j h1 h2 => ints_eqAt hv hw j h1 h2) prog w _ _ ⟨s.heap, s.toks, rfl, ?_⟩
    simp only [List.size_toArray]
    rw [e1, all_eq (by (first | lia | omega))]
    exact q
  · refine RcNeAt.lists_lengths hl hb (by simpa using c) hu prog w _ _ ⟨s.heap, s.toks, rfl, ?_⟩
    have : ¬ ns = ms := fun z => c (by rw [e1, e2, z])
    rw [decide_eq_false this] at q
    exact q
theorem tups_eqAt {vs us : List Value} {bs cs : List (Nat × Nat × Nat)} {s : Shared} {B : Around} (hu : B.units < cLine) (hv : TupsAre s.heap vs bs) (hw : TupsAre s.heap us cs) (j : Nat) (h1 : j < vs.toArray.size) (h2 : j < us.toArray.size) : EqAt B s vs.toArray[j] us.toArray[j] (decide (bs[j]? = cs[j]?)) := by
  simp only [List.size_toArray] at h1 h2
  obtain ⟨t, o, i, j', k, t1, t2, t3, e1, e2, e3, e4⟩ := hv.get h1
  obtain ⟨t', o', i', j'', k', u1, u2, u3, f1, f2, f3, f4⟩ := hw.get h2
  have a1 : vs.toArray[j]'(by simpa using h1) = .ref t := by
    simp only [List.getElem_toArray]
    rw [List.getElem?_eq_getElem h1] at e1; exact Option.some.inj e1
  have a2 : us.toArray[j]'(by simpa using h2) = .ref t' := by
    simp only [List.getElem_toArray]
    rw [List.getElem?_eq_getElem h2] at f1; exact Option.some.inj f1
  rw [a1, a2, e2, f2]
  by_cases c : t = t'
  · subst c
    rw [e3] at f3
    obtain rfl := Option.some.inj f3
    obtain ⟨n, rfl⟩ := e4
    obtain ⟨n', z⟩ := f4
    have z := congrArg Obj.data z
    simp only [Data.seq.injEq, List.toArray_eq_iff] at z
    have z1 := z.1
    simp only [List.cons.injEq, Value.int.injEq, and_true] at z1
    have : decide (some (i, j', k) = some (i', j'', k')) = true := by
      simp only [decide_eq_true_eq, Option.some.injEq, Prod.mk.injEq]
      (first | lia | omega)
    rw [this]
    exact EqAt.same _
  · refine EqAt.of_refs c fun prog w E Q q => ?_
    refine RcAt.tuples (e := fun n => decide (([(i : Int), j', k] : List Int)[n]? = ([(i' : Int), j'', k'] : List Int)[n]?)) (e4.isTuple e3) (f4.isTuple f3) hu (fun n g1 g2 => ?_) prog w E Q ?_
    · exact ints_eqAt (.cons (i : Int) t1 (.cons (j' : Int) t2 (.cons (k : Int) t3 .nil))) (.cons (i' : Int) u1 (.cons (j'' : Int) u2 (.cons (k' : Int) u3 .nil))) n g1 g2
    · have e5 := all_eq (xs := ([(i : Int), j', k] : List Int)) (ys := ([(i' : Int), j'', k'] : List Int)) rfl
      simp only [List.length_cons, List.length_nil] at e5
      simp only [List.size_toArray, List.length_cons, List.length_nil, Nat.min_self, beq_self_eq_true, Bool.and_true]
      rw [e5]
      have : decide (([(i : Int), j', k] : List Int) = [(i' : Int), j'', k']) = decide (some (i, j', k) = some (i', j'', k')) := by
        congr 1
        simp only [List.cons.injEq, and_true, Option.some.injEq, Prod.mk.injEq, eq_iff_iff]
        (first | lia | omega)
      rw [this]; exact q
theorem t_eqTups {a b : Addr} {vs us : List Value} {bs cs : List (Nat × Nat × Nat)} {Q : Value → Heap → Prop} (hu : A.units + 1 < cLine) (hl : h.IsList a vs.toArray) (hb : h.IsList b us.toArray) (hv : TupsAre h vs bs) (hw : TupsAre h us cs) (q : Q (.bool (decide (bs = cs))) h) : T prog w A (compareOp .Eq (.ref a) (.ref b)) h Q := fun s es => by
  subst es
  have e1 := hv.length
  have e2 := hw.length
  by_cases c : vs.length = us.length
  · refine eq_listAt hl hb (by simpa using c) (by (first | lia | omega)) (fun j h1 h2 => tups_eqAt hu hv hw j h1 h2) ⟨s.heap, s.toks, rfl, ?_⟩
    simp only [List.size_toArray]
    rw [e1, all_eq (by (first | lia | omega))]
    exact q
  · refine eq_list_lengthsAt hl hb (by simpa using c) (by (first | lia | omega)) ⟨s.heap, s.toks, rfl, ?_⟩
    have : ¬ bs = cs := fun z => c (by rw [e1, e2, z])
    rw [decide_eq_false this] at q
    exact q
end
end Mine

end
section
open PySem PySem.W PyProof.Rows PySem.Calls
set_option Elab.async false
set_option linter.unusedVariables false
set_option maxRecDepth 100000
set_option maxHeartbeats 4000000
namespace Mine
section
variable {prog : Program} {w : World} {A : Around} {h h' h₀ h₁ : Heap} {env cenv : Env} {D : List Addr} {m : Str → Option Value} {l lo : List (Addr × Obj)} {K : Frag}
theorem t_IfExp {test body orelse : PySem.Expr} {pos : Pos} {Q : Value → Heap → Prop} (t : T prog w A (isTrue test env (eval test env)) h fun c h₁ => if c = true then T prog w A (eval body env) h₁ Q else T prog w A (eval orelse env) h₁ Q) : T prog w A (eval (.IfExp test body orelse pos) env) h Q := fun s es =>
  IfExp_ (wpAny_mono (t s es) (by
    rintro c s₁ ⟨h₁, t₁, rfl, z⟩
    cases c with
    | true => exact wpAny_mono (z _ rfl) (by rintro vs s₂ ⟨h₂, t₂, rfl, z⟩; exact ⟨h₂, t₂, rfl, z⟩) fun _ _ z => z
    | false => exact wpAny_mono (z _ rfl) (by rintro vs s₂ ⟨h₂, t₂, rfl, z⟩; exact ⟨h₂, t₂, rfl, z⟩) fun _ _ z => z) fun _ _ z => z)
theorem T.fdiv {a b : Int} {t u : Tok} {Q : Value → Heap → Prop} (hb : b ≠ 0) (hs : b.natAbs < 1073741824) (q : ∀ t, Q (.int (a.fdiv b) t) h) : T prog w A (binaryOp .FloorDiv (.int a t) (.int b u)) h Q := fun s es => by subst es; exact PyProof.Rows.floordiv_int hb ⟨_, _, rfl, q _⟩ (.inl (PyProof.noPylong_small hs))
theorem t_SubListG {value idx : PySem.Expr} {pos : Pos} {Q : Value → Heap → Prop}
    (t : T prog w A (eval value env) h fun o h₁ => T prog w A (eval idx env) h₁ fun i h₂ => ∃ a vs k u x, o = .ref a ∧ i = .int k u ∧ h₂.IsList a (List.toArray vs) ∧ 0 ≤ k ∧ k < 2 ^ 63 ∧ vs[k.toNat]? = some x ∧ Q x h₂)
    (hsub : ∀ o i, subscripted idx false o i = operate [o, i] (getItem o i) := by intro _ _; rfl) : T prog w A (eval (.Subscript value idx pos) env) h Q := fun s es => by
  rw [eval_Subscript]
  refine wpAny_bind (wpAny_mono (t s es) (fun o s₁ h₁ => ?_) fun _ _ x => x)
  obtain ⟨g₁, t₁, rfl, h₁⟩ := h₁
  refine wpAny_bind (wpAny_holding (wpAny_mono (h₁ _ rfl) (fun i s₂ h₂ => wpAny_bind (wpAny_standAt ?_)) fun _ _ x => x))
  obtain ⟨g₂, t₂, rfl, a, vs, k, u, x, rfl, rfl, hl, h0, hk, hx, q⟩ := h₂
  have hT : (⟨g₂, s.gens, s.drawn, t₂, s.os⟩ : Shared).TypeIs (.ref a) "list" := hl.typeIs
  refine wpAny_bind ?_
  rw [getitemInPython_of_ne hT.not_modules]
  refine wpAny_bind (wpAny_specialOf hT PySem.F.slot_list_getitem.lookup ?_)
  have fin : wpAny (model prog w) A (operate [.ref a, .int k u] (getItem (.ref a) (.int k u))) (fun r s₃ => wpAny (model prog w) A (letTemporaryGo value (.ref a) r >>= fun _ => pure r) (fun a s' => ∃ h' tk, s' = { s with heap := h', toks := tk } ∧ Q a h') (fun _ _ => False) s₃) (fun _ _ => False) ⟨g₂, s.gens, s.drawn, t₂, s.os⟩ :=
    wpAny_operating (getItem_listL hl h0 hk hx (wpAny_bind (wpAny_letTemporaryGo (wpAny_pure ⟨_, _, rfl, q⟩))))
  have fin' := wpAny_bind fin
  rw [← hsub] at fin'
  exact wpAny_pure fin'
structure Cel (env : Env) (x : Str) (c : Addr) : Prop where
  kind : env.kindOf x = some .cell
  look : env.cells.lookup x = some c
theorem t_NameL {x : Str} {pos : Pos} {c L : Addr} {o : Obj} {v : Value} {Q : Value → Heap → Prop} (e : EnvOk env) (C : Cel env x c) (H : S h₀ D L m l h) (hc : (c, o) ∈ l) (hv : IsCel o (some v)) (q : Q v h) (hd : (x == ("__debug__" : Str)) = false) : T prog w A (eval (.Name x pos) env) h Q :=
  t_NameC e C.kind C.look (H.get hc) hv q hd
theorem t_storeL {x : Str} {c L : Addr} {o : Obj} {v₀ : Option Value} {v : Value} {Q : Unit → Heap → Prop} (e : EnvOk env) (C : Cel env x c) (H : S h₀ D L m ((c, o) :: l) h) (hv : IsCel o v₀) (q : ∀ h' o', IsCel o' (some v) → S h₀ D L m ((c, o') :: l) h' → Q () h') : T prog w A (storeName env x v) h Q :=
  t_storeCell e C.kind C.look (H.get (by first | walk_at "mem" | simp)) hv fun h' o' s' g' d' => q h' o' d' (H.upd (o' := o') 0 rfl s' g')
inductive PrsIn (l : List (Addr × Obj)) : List Value → List (Nat × Nat) → Prop
  | nil : PrsIn l [] []
  | cons {t : Addr} {o : Obj} {i j : Nat} {t1 t2 : Tok} {vs : List Value} {bs : List (Nat × Nat)} : (t, o) ∈ l → IsTupO o [.int i t1, .int j t2] → PrsIn l vs bs → PrsIn l (.ref t :: vs) ((i, j) :: bs)
theorem PrsIn.length {vs : List Value} {bs : List (Nat × Nat)} (x : PrsIn l vs bs) : vs.length = bs.length := by
  induction x with
  | nil => rfl
  | cons _ _ _ ih => simp [ih]
theorem PrsIn.mono {l' : List (Addr × Obj)} {vs : List Value} {bs : List (Nat × Nat)} (x : PrsIn l vs bs) (hs : ∀ p ∈ l, p ∈ l') : PrsIn l' vs bs := by
  induction x with
  | nil => exact .nil
  | cons h1 h2 _ ih => exact .cons (hs _ h1) h2 ih
theorem PrsIn.snoc {t : Addr} {o : Obj} {i j : Nat} {t1 t2 : Tok} {vs : List Value} {bs : List (Nat × Nat)} (x : PrsIn l vs bs) (ht : (t, o) ∈ l) (ho : IsTupO o [.int i t1, .int j t2]) : PrsIn l (vs ++ [.ref t]) (bs ++ [(i, j)]) := by
  induction x with
  | nil => exact .cons ht ho .nil
  | cons h1 h2 _ ih => exact .cons h1 h2 ih
theorem PrsIn.get {vs : List Value} {bs : List (Nat × Nat)} (x : PrsIn l vs bs) : ∀ {n : Nat}, n < vs.length → ∃ t o i j t1 t2, vs[n]? = some (.ref t) ∧ bs[n]? = some (i, j) ∧ (t, o) ∈ l ∧ IsTupO o [.int (i : Nat) t1, .int (j : Nat) t2] := by
  induction x with
  | nil => intro n hn; simp at hn
  | cons hx ho r ih =>
    intro n hn
    cases n with
    | zero => exact ⟨_, _, _, _, _, _, rfl, rfl, hx, ho⟩
    | succ n =>
      obtain ⟨t, o, i, j, t1, t2, e1, e2, e3, e4⟩ := ih (n := n) (by simpa using hn)
      exact ⟨t, o, i, j, t1, t2, by simpa using e1, by simpa using e2, e3, e4⟩
theorem PrsIn.refs {vs : List Value} {bs : List (Nat × Nat)} (x : PrsIn l vs bs) : ∀ v ∈ vs, ∃ a, v = .ref a := by
  induction x with
  | nil => simp
  | cons _ _ _ ih => intro v hv; rcases List.mem_cons.mp hv with rfl | hv; exact ⟨_, rfl⟩; exact ih v hv
end
end Mine

end
section
open PySem PySem.W PyProof.Rows PySem.Calls
set_option Elab.async false
set_option linter.unusedVariables false
set_option maxRecDepth 100000
set_option maxHeartbeats 4000000
namespace Mine
section
variable {prog : Program} {w : World} {A : Around} {h h' h₀ h₁ : Heap} {env cenv : Env} {D : List Addr} {m : Str → Option Value} {l lo : List (Addr × Obj)}
variable {elt t0 i0 t1 i1 : PySem.Expr} {scope : Scope} {pos : Pos} {it acc : Value}
theorem compTurn2_0 (elt t0 i0 t1 i1 : PySem.Expr) (scope : Scope) (pos : Pos) (it acc : Value) (env : Env) :
    compTurn (.ListComp elt [⟨t0, i0, [], 0⟩, ⟨t1, i1, [], 0⟩] scope pos) 0 it acc env = (do
      standAt i0.pos
      match ← pyNext it with
      | none => pure (.done .next)
      | some v =>
        letOwnedTupleGo t0 it v
        assign t0 env v
        let x ← eval i1 env
        standAt i1.pos
        let x ← foldedSetIterable i1 env x
        let it' ← holding [x] (pyIter x)
        let _ ← runOwn (.compStart (.ListComp elt [⟨t0, i0, [], 0⟩, ⟨t1, i1, [], 0⟩] scope pos) 1 it' acc env) env
        again (.compLoop (.ListComp elt [⟨t0, i0, [], 0⟩, ⟨t1, i1, [], 0⟩] scope pos) 0 it acc env)) := by rfl
theorem compTurn2_1 (elt t0 i0 t1 i1 : PySem.Expr) (scope : Scope) (pos : Pos) (it acc : Value) (env : Env) :
    compTurn (.ListComp elt [⟨t0, i0, [], 0⟩, ⟨t1, i1, [], 0⟩] scope pos) 1 it acc env = (do
      standAt i1.pos
      match ← pyNext it with
      | none => pure (.done .next)
      | some v =>
        letOwnedTupleGo t1 it v
        assign t1 env v
        (do let _ ← call (.builtin "list.append") [acc, ← eval elt env])
        again (.compLoop (.ListComp elt [⟨t0, i0, [], 0⟩, ⟨t1, i1, [], 0⟩] scope pos) 1 it acc env)) := by rfl
theorem tl_loop1 {Q : Heap → Prop} (I : Nat → Heap → Prop)
    (turn : ∀ n h, I n h → T prog w A (pyNext it) h fun r h₁ => match r with
      | none => Q h₁
      | some v => T prog w A (letOwnedTupleGo t1 it v) h₁ fun _ h₂ => T prog w A (assign t1 cenv v) h₂ fun _ h₃ => T prog w A (eval elt cenv) h₃ fun x h₄ => T prog w A (call (.builtin "list.append") [acc, x]) h₄ fun _ h₅ => ∃ m, m < n ∧ I m h₅)
    (n : Nat) (hI : I n h) : TL prog w A (.compLoop (.ListComp elt [⟨t0, i0, [], 0⟩, ⟨t1, i1, [], 0⟩] scope pos) 1 it acc cenv) h Q := fun s es => by
  subst es
  refine codeAny_loop rfl (fun n s' => ∃ h' tk, s' = { s with heap := h', toks := tk } ∧ I n h') ?_ n ⟨s.heap, s.toks, rfl, hI⟩
  rintro n s' ⟨h', tk, rfl, hI⟩
  show wpAny _ A ((compTurn (.ListComp elt [⟨t0, i0, [], 0⟩, ⟨t1, i1, [], 0⟩] scope pos) 1 it acc cenv).onRaise (fun x => do noteFrame x cenv; theTreesLotGoes x)) _ _ _
  refine wpAny_noted ?_
  rw [compTurn2_1]
  refine wpAny_bind (wpAny_standAt (wpAny_bind (wpAny_mono (turn n h' hI _ rfl) ?_ fun _ _ z => z.elim)))
  rintro r s₁ ⟨h₁, t₁, rfl, z⟩
  cases r with
  | none => exact wpAny_pure ⟨_, _, rfl, rfl, z⟩
  | some v =>
    refine wpAny_bind (wpAny_mono (z _ rfl) ?_ fun _ _ z => z.elim)
    rintro _ s₂ ⟨h₂, t₂, rfl, z⟩
    refine wpAny_bind (wpAny_mono (z _ rfl) ?_ fun _ _ z => z.elim)
    rintro _ s₃ ⟨h₃, t₃, rfl, z⟩
    refine wpAny_bind (wpAny_bind (wpAny_mono (z _ rfl) ?_ fun _ _ z => z.elim))
    rintro y s₅ ⟨h₅, t₅, rfl, z⟩
    refine wpAny_bind (wpAny_mono (z _ rfl) ?_ fun _ _ z => z.elim)
    rintro _ s₆ ⟨h₆, t₆, rfl, k, hk, z⟩
    exact wpAny_pure (wpAny_pure ⟨rfl, k, hk, _, _, rfl, z⟩)
theorem tl_start1 {Q : Heap → Prop} (x : TL prog w A (.compLoop (.ListComp elt [⟨t0, i0, [], 0⟩, ⟨t1, i1, [], 0⟩] scope pos) 1 it acc cenv) h Q)
    (y : T prog w A (pyIter it) h fun it' h' => TL prog w A (.compLoop (.ListComp elt [⟨t0, i0, [], 0⟩, ⟨t1, i1, [], 0⟩] scope pos) 1 it' acc cenv) h' Q) :
    TL prog w A (.compStart (.ListComp elt [⟨t0, i0, [], 0⟩, ⟨t1, i1, [], 0⟩] scope pos) 1 it acc cenv) h Q := fun s es => by
  have h0 := x s es
  have h2 := y s es
  refine codeAny_of_tree ?_
  show wpAny _ _ ((compStart (.ListComp elt [⟨t0, i0, [], 0⟩, ⟨t1, i1, [], 0⟩] scope pos) 1 it acc cenv).onRaise (fun x => do noteFrame x cenv; standAt theWindowsPlace)) _ _ s
  refine wpAny_notedAt ?_
  unfold compStart
  show wpAny _ _ (ask >>= _) _ _ s
  refine wpAny_bind (wpAny_askSetting (wpAny_ite ?_))
  have fin : ∀ it' s', (∃ h' tk, s' = { s with heap := h', toks := tk } ∧ TL prog w A (.compLoop (.ListComp elt [⟨t0, i0, [], 0⟩, ⟨t1, i1, [], 0⟩] scope pos) 1 it' acc cenv) h' Q) → codeAny (model prog w) A (.compLoop (.ListComp elt [⟨t0, i0, [], 0⟩, ⟨t1, i1, [], 0⟩] scope pos) 1 it' acc cenv) (fun r s' => ∃ h' tk, r = .ok .next ∧ s' = { s with heap := h', toks := tk } ∧ Q h') s' := by
    rintro it' s' ⟨h', tk, rfl, z⟩
    exact z _ rfl
  split
  · first
      | exact wpAny_bind (wpAny_pure (wpAny_pure (And.intro rfl h0)))
      | exact wpAny_pure (And.intro rfl h0)
  · first
      | exact wpAny_bind (wpAny_rule (wpAny_bind (wpAny_standAt (wpAny_bind (wpAny_mono h2 (fun it' s' h' => wpAny_pure (And.intro rfl (fin it' s' h'))) fun _ _ x => x.elim)))))
      | (refine wpAny_bind (wpAny_rule ?_); show wpAny _ _ (standAt i1.pos >>= _) _ _ s; exact wpAny_bind (wpAny_standAt (wpAny_bind (wpAny_mono h2 (fun it' s' h' => wpAny_pure (And.intro rfl (fin it' s' h'))) fun _ _ x => x.elim))))
theorem tl_loop0 {Q : Heap → Prop} (hs1 : ∀ x, foldedSetIterable i1 cenv x = pure x) (I : Nat → Heap → Prop)
    (turn : ∀ n h, I n h → T prog w A (pyNext it) h fun r h₁ => match r with
      | none => Q h₁
      | some v => T prog w A (letOwnedTupleGo t0 it v) h₁ fun _ h₂ => T prog w A (assign t0 cenv v) h₂ fun _ h₃ => T prog w A (eval i1 cenv) h₃ fun x h₄ => T prog w A (pyIter x) h₄ fun it' h₅ => TL prog w A (.compStart (.ListComp elt [⟨t0, i0, [], 0⟩, ⟨t1, i1, [], 0⟩] scope pos) 1 it' acc cenv) h₅ fun h₆ => ∃ m, m < n ∧ I m h₆)
    (n : Nat) (hI : I n h) : TL prog w A (.compLoop (.ListComp elt [⟨t0, i0, [], 0⟩, ⟨t1, i1, [], 0⟩] scope pos) 0 it acc cenv) h Q := fun s es => by
  subst es
  refine codeAny_loop rfl (fun n s' => ∃ h' tk, s' = { s with heap := h', toks := tk } ∧ I n h') ?_ n ⟨s.heap, s.toks, rfl, hI⟩
  rintro n s' ⟨h', tk, rfl, hI⟩
  show wpAny _ A ((compTurn (.ListComp elt [⟨t0, i0, [], 0⟩, ⟨t1, i1, [], 0⟩] scope pos) 0 it acc cenv).onRaise (fun x => do noteFrame x cenv; theTreesLotGoes x)) _ _ _
  refine wpAny_noted ?_
  rw [compTurn2_0]
  refine wpAny_bind (wpAny_standAt (wpAny_bind (wpAny_mono (turn n h' hI _ rfl) ?_ fun _ _ z => z.elim)))
  rintro r s₁ ⟨h₁, t₁, rfl, z⟩
  cases r with
  | none => exact wpAny_pure ⟨_, _, rfl, rfl, z⟩
  | some v =>
    refine wpAny_bind (wpAny_mono (z _ rfl) ?_ fun _ _ z => z.elim)
    rintro _ s₂ ⟨h₂, t₂, rfl, z⟩
    refine wpAny_bind (wpAny_mono (z _ rfl) ?_ fun _ _ z => z.elim)
    rintro _ s₃ ⟨h₃, t₃, rfl, z⟩
    refine wpAny_bind (wpAny_mono (z _ rfl) ?_ fun _ _ z => z.elim)
    rintro x s₄ ⟨h₄, t₄, rfl, z⟩
    refine wpAny_bind (wpAny_standAt (wpAny_bind (wpAny_of_eq (hs1 x) (wpAny_bind (wpAny_holding (wpAny_mono (z _ rfl) ?_ fun _ _ z => z.elim))))))
    rintro it' s₅ ⟨h₅, t₅, rfl, z⟩
    refine wpAny_bind (wpAny_runOwn (codeAny_mono (z _ rfl) ?_))
    rintro r s₆ ⟨h₆, t₆, rfl, rfl, k, hk, z⟩
    exact wpAny_pure ⟨rfl, k, hk, _, _, rfl, z⟩
theorem tl_all {x : Str} {px px' : Pos} {ls ac : Addr} {ols oa : Obj} {vs va : List Value} {Q : Heap → Prop} (e : EnvOk cenv) (hh : A.handled = none) (hx : cenv.kindOf x = some .local) (hd : (x == ("__debug__" : Str)) = false) (lls : IsLst ols vs) (la : IsLst oa va) (hsz : va.length + vs.length ≤ sizeLine)
    (H : S h₁ [] cenv.locals m ((ac, oa) :: (ls, ols) :: l) h)
    (q : ∀ h' m' oa', (∀ y, y ≠ x → m' y = m y) → IsLst oa' (va ++ vs) → S h₁ [] cenv.locals m' ((ac, oa') :: (ls, ols) :: l) h' → Q h') :
    T prog w A (pyIter (.ref ls)) h fun it h₂ => TL prog w A (.compStart (.ListComp (.Name x px') [⟨t0, i0, [], 0⟩, ⟨.Name x px, i1, [], 0⟩] scope pos) 1 it (.ref ac) cenv) h₂ Q := fun s es => by
  subst es
  refine wpAny_pyIter_list (lls.isList (H.get (by first | walk_at "mem" | simp))) ⟨_, s.toks, rfl, ?_⟩
  have HI := H.addEnd (Sub.push _ { cls := .type "list_iterator", data := .fields #[.ref ls, rawInt 0] }) (get_size_none _) (get_push_self _ _)
  generalize s.heap.objs.size = J at *
  have loop : ∀ {h : Heap}, (S h₁ [] cenv.locals m (((ac, oa) :: (ls, ols) :: l) ++ [(J, { cls := .type "list_iterator", data := .fields #[.ref ls, rawInt 0] })]) h) → TL prog w A (.compLoop (.ListComp (.Name x px') [⟨t0, i0, [], 0⟩, ⟨.Name x px, i1, [], 0⟩] scope pos) 1 (.ref J) (.ref ac) cenv) h Q := by
    intro h HI
    refine tl_loop1 (fun k h => ∃ i m₁ oa o, k + i = vs.length ∧ (∀ y, y ≠ x → m₁ y = m y) ∧ IsLst oa (va ++ vs.take i) ∧ S h₁ [] cenv.locals m₁ (((ac, oa) :: (ls, ols) :: l) ++ [(J, o)]) h ∧ h.IsListIter J ls i) ?_ vs.length ⟨0, m, oa, _, rfl, fun _ _ => rfl, by simpa using la, HI, ⟨_, HI.getEnd, rfl, rfl⟩⟩
    rintro k h ⟨i, m₁, oa, o, hk, km, la, HS, hit⟩
    intro s' es'
    subst es'
    have hL := lls.isList (HS.get (a := ls) (o := ols) (by first | walk_at "mem" | simp))
    cases hv : vs[i]? with
    | none =>
      have hlen : vs.length ≤ i := by simpa using hv
      obtain rfl : i = vs.length := by (first | lia | omega)
      refine wpAny_pyNext_list_end hh hit hL (by first | walk_at "mem" | simp) fun h' he => ⟨h', s'.toks, rfl, ?_⟩
      rw [List.take_length] at la
      exact q h' m₁ oa km la ((HS.dropEnd (by first | walk_at "mem" | simp)).keepBut (Sub.ext he) fun b hb => HS.ownEnd (by first | walk_at "mem" | simp) b (by simpa using hb))
    | some v =>
      have hlt : i < vs.length := by
        rcases Nat.lt_or_ge i vs.length with y | y
        · exact y
        · rw [List.getElem?_eq_none y] at hv; cases hv
      refine wpAny_pyNext_list_item hit hL (x := v) (by simpa using hv) fun h₂ hit₂ hs₂ => ⟨h₂, s'.toks, rfl, ?_⟩
      obtain ⟨o₂, ho₂, hc₂⟩ := id hit₂
      have H₂ := HS.updEnd (Sub.same hs₂) ho₂
      refine T.eq rfl (T.pure ?_)
      refine t_assignName e H₂ (fun h₃ H₃ => ?_) hx
      refine T.Name e H₃ upd_here ?_ hx hd
      refine t_append (H₃.get (by first | walk_at "mem" | simp)) la (by simp; (first | lia | omega)) fun h₄ o₄ s₄ g₄ l₄ => ?_
      have H₄ := H₃.upd (o' := o₄) 0 rfl s₄ g₄
      have H₄' : S h₁ [] cenv.locals (upd m₁ x v) (((ac, o₄) :: (ls, ols) :: l) ++ [(J, o₂)]) h₄ := H₄
      refine ⟨k - 1, by (first | lia | omega), i + 1, _, o₄, o₂, by (first | lia | omega), fun y hy => ?_, ?_, H₄', o₂, H₄'.getEnd, hc₂⟩
      · rw [← km y hy]; simp [upd, hy]
      · rw [List.take_add_one, hv]
        simpa using l₄
  refine tl_start1 (loop HI) fun s₂ es₂ => ?_
  replace es₂ : s.heap.push { cls := .type "list_iterator", data := .fields #[.ref ls, rawInt 0] } = s₂.heap := es₂.symm
  rw [es₂] at HI
  exact wpAny_pyIter_listiter (i := 0) ⟨_, HI.getEnd, rfl, rfl⟩ ⟨s₂.heap, s₂.toks, rfl, loop HI⟩
theorem comp_coreG {target iter : PySem.Expr} {ifs : List PySem.Expr} {rest : List Comprehension} {cl : List (Str × Addr)} {s : Shared} {h₂ : Heap} {t₂ : Nat} {I : Addr} {n : Nat} {P : Nat → Value → Prop} {oI : Obj} {St : Nat → Obj → Prop} {E : Value → Shared → Prop} {RR : Value → Addr → Result → Shared → Prop} (e : EnvOk env) (hcell' : ∀ y ∈ scope.names, y.2 ≠ .cell) (hkind : scope.kind = .function)
    (sub₂ : Sub [] h₁ h₂) (nI : h₁.get? I = none) (gI : h₂.get? I = some oI) (st0 : St 0 oI) (It : Iter prog w A I h₁ n P St target)
    (body : ∀ (env' : Env) acc oacc h₃, EnvOk env' → env'.scope = relabel scope env → env'.cells = cl → IsLst oacc [] → S h₁ [] env'.locals (fun _ => none) ([(acc, oacc)] ++ [(I, oI)]) h₃ →
      TL prog w A (.compLoop (.ListComp elt (⟨target, iter, ifs, 0⟩ :: rest) scope pos) 0 (.ref I) (.ref acc) env') h₃ fun h' => ∀ tk, RR (.ref acc) env'.locals (.ok .next) { s with heap := h', toks := tk }) :
    wpAny (model prog w) A (newList []) (fun acc s₃ => wpAny (model prog w) A (newFunctionEnv scope env.globals cl [] env.qual none .none (some env)) (fun cenv s₄ =>
      codeAny (model prog w) A (.compStart (.ListComp elt (⟨target, iter, ifs, 0⟩ :: rest) scope pos) 0 (.ref I) acc { cenv with scope := relabel scope env }) (RR acc cenv.locals) s₄) E s₃) E { s with heap := h₂, toks := t₂ } := by
  refine wpAny_newObj_type (wpAny_newFunctionEnv hcell' (by intro y hy; simp at hy) (fun h₃ hns₃ hsb₃ => ?_) hkind)
  dsimp only at hns₃ hsb₃ ⊢
  generalize hH2 : h₂.push { cls := .type "list", dict := none, data := .seq ([] : List Value).toArray } = H2 at hns₃ hsb₃ ⊢
  have gA : H2.get? h₂.objs.size = some { cls := .type "list", dict := none, data := .seq ([] : List Value).toArray } := by rw [← hH2]; exact get_push_self _ _
  have s23 : Sub [] h₂ H2 := by rw [← hH2]; exact Sub.push _ _
  have nC : H2.get? H2.objs.size = none := get_size_none _
  have s34 : Sub [] H2 h₃ := fun b o _ eb => by
    have hb : b ≠ H2.objs.size := fun q => by rw [q, nC] at eb; cases eb
    exact hsb₃.extBut b o hb (Heap.get?_push_of_some _ eb)
  have nA : h₂.get? h₂.objs.size = none := get_size_none _
  generalize hAa : h₂.objs.size = aA at *
  generalize hCc : H2.objs.size = aC at *
  have none1 : ∀ {a}, h₂.get? a = none → h₁.get? a = none := fun {a} ha => by
    cases q : h₁.get? a with
    | none => rfl
    | some o => rw [sub₂ a o (by first | walk_at "mem" | simp) q] at ha; cases ha
  have none2 : h₂.get? aC = none := by
    cases q : h₂.get? aC with
    | none => rfl
    | some o => rw [s23 aC o (by first | walk_at "mem" | simp) q] at nC; cases nC
  have hAI : aA ≠ I := fun q => by rw [q, gI] at nA; cases nA
  have hAC : aA ≠ aC := fun q => by rw [q, nC] at gA; cases gA
  have hIC : I ≠ aC := fun q => by rw [q, none2] at gI; cases gI
  have H : S h₁ [] aC (fun _ => none) ([(aA, { cls := .type "list", dict := none, data := .seq ([] : List Value).toArray })] ++ [(I, oI)]) h₃ := {
    base := (sub₂.trans s23).trans s34
    ns := hns₃
    led := fun p hp => by
      rcases List.mem_append.mp hp with hp | hp
      · obtain rfl := List.mem_singleton.mp hp; exact s34 _ _ (by first | walk_at "mem" | simp) gA
      · obtain rfl := List.mem_singleton.mp hp; exact s34 _ _ (by first | walk_at "mem" | simp) (s23 _ _ (by first | walk_at "mem" | simp) gI)
    own := fun p hp => by
      rcases List.mem_append.mp hp with hp | hp
      · obtain rfl := List.mem_singleton.mp hp; exact .inr (none1 nA)
      · obtain rfl := List.mem_singleton.mp hp; exact .inr nI
    nodup := by simp [hAI]
    offL := by simp [hAC.symm, hIC.symm]
    newL := none1 none2
    dl := by simp }
  have loop := body (compEnvC scope cl aC env) aA _ h₃ (cenv_ok e hkind) rfl rfl ⟨0, rfl⟩ H
  have post : ∀ s₄ : Shared, (∃ tk, s₄ = { s with heap := h₃, toks := tk }) → codeAny (model prog w) A (.compLoop (.ListComp elt (⟨target, iter, ifs, 0⟩ :: rest) scope pos) 0 (.ref I) (.ref aA) (compEnvC scope cl aC env)) (RR (.ref aA) aC) s₄ := by
    rintro s₄ ⟨tk4, rfl⟩
    refine codeAny_mono (loop _ rfl) ?_
    rintro r s' ⟨h', tk, rfl, rfl, z⟩
    exact z tk
  refine codeAny_compStart_list (post _ ⟨_, rfl⟩) ?_
  refine wpAny_mono (It.self h₃ oI H.base H.getEnd st0 _ rfl) ?_ fun _ _ z => z.elim
  rintro it' s₅ ⟨h₅, t₅, rfl, rfl, rfl⟩
  exact post _ ⟨_, rfl⟩
theorem t_ListComp2 {cl : List (Str × Addr)} {Q : Value → Heap → Prop} (e : EnvOk env) (hclos : closureFor scope env = pure cl) (hcell : (scope.names.all fun y => y.2 != .cell) = true) (hkind : scope.kind = .function)
    (hnames : (scope.names.all fun y => y.2 != .local || decide (scope.names.lookup y.1 = some .local)) = true) (hs1 : ∀ env' x, foldedSetIterable i1 env' x = pure x)
    (x : T prog w A (eval i0 env) h fun xv h₁ => ∃ n P, (T prog w A (pyIter xv) h₁ fun it h₂ => ∃ I o St, it = .ref I ∧ Sub [] h₁ h₂ ∧ h₁.get? I = none ∧ h₂.get? I = some o ∧ St 0 o ∧ Iter prog w A I h₁ n P St t0) ∧
      ∀ (env' : Env) acc oacc, EnvOk env' → env'.scope = relabel scope env → env'.cells = cl → IsLst oacc [] → ∃ Inv : Nat → (Str → Option Value) → List (Addr × Obj) → Prop, Inv 0 (fun _ => none) [(acc, oacc)] ∧
        (∀ i v m₁ l₁ I o h, i < n → P i v → Inv i m₁ l₁ → S h₁ [] env'.locals m₁ (l₁ ++ [(I, o)]) h → T prog w A (assign t0 env' v) h fun _ h₃ => T prog w A (eval i1 env') h₃ fun x h₄ => T prog w A (pyIter x) h₄ fun it' h₅ =>
          TL prog w A (.compStart (.ListComp elt [⟨t0, i0, [], 0⟩, ⟨t1, i1, [], 0⟩] scope pos) 1 it' (.ref acc) env') h₅ fun h₆ => ∃ m₂ l₂, Inv (i + 1) m₂ l₂ ∧ S h₁ [] env'.locals m₂ (l₂ ++ [(I, o)]) h₆) ∧
        (∀ m₁ l₁ h', Inv n m₁ l₁ → Ext h₁ l₁ h' → Q (.ref acc) h'))
    (hs : ∀ x, foldedSetIterable i0 env x = pure x := by intro _; rfl) : T prog w A (eval (.ListComp elt [⟨t0, i0, [], 0⟩, ⟨t1, i1, [], 0⟩] scope pos) env) h Q := fun s es => by
  rw [eval_ListComp]
  obtain ⟨hcell', hnames'⟩ := comp_looks hcell hnames
  refine wpAny_comprehension_free (use := none) rfl hs hclos hkind hnames' (wpAny_mono (x s es) ?_ fun _ _ z => z)
  rintro xv s₁ ⟨h₁, t₁, rfl, n, P, hit, body⟩
  refine wpAny_mono (hit _ rfl) ?_ fun _ _ z => z
  rintro it s₂ ⟨h₂, t₂, rfl, I, oI, St, rfl, sub₂, nI, gI, st0, It⟩
  refine comp_coreG (s := s) (RR := fun acc C => compPost (model prog w) A (fun _ _ => False) none (fun a s' => ∃ h' tk, s' = { s with heap := h', toks := tk } ∧ Q a h') acc C) e hcell' hkind sub₂ nI gI st0 It ?_
  intro env' acc oacc h₃ e' sc' cl' lacc H
  obtain ⟨Inv, i0, turn, fin⟩ := body env' acc oacc e' sc' cl' lacc
  refine tl_loop0 (hs1 env') (fun k h => ∃ i m₁ l₁ o, k + i = n ∧ Inv i m₁ l₁ ∧ S h₁ [] env'.locals m₁ (l₁ ++ [(I, o)]) h ∧ St i o) ?_ n ⟨0, _, _, oI, rfl, i0, H, st0⟩
  rintro k h ⟨i, m₁, l₁, o, hk, hi, HS, hst⟩
  by_cases hlt : i < n
  · refine (It.item i h o hlt HS.base HS.getEnd hst).mono ?_
    rintro r h₂ ⟨v, o', rfl, hP, s₂, g₂, hs'⟩
    have H₂ := HS.updEnd s₂ g₂
    refine (It.go i v h₂ o' hP g₂ hs').mono ?_
    rintro _ h₃ rfl
    refine (turn i v m₁ l₁ I o' h₃ hlt hP hi H₂).mono fun _ h₄ z => z.mono fun x h₅ z => z.mono fun it' h₆ z => ?_
    intro s₆ es₆
    refine codeAny_mono (z s₆ es₆) ?_
    rintro r s₇ ⟨h₇, t₇, rfl, rfl, m₂, l₂, i₂, H₇⟩
    exact ⟨h₇, t₇, rfl, rfl, k - 1, by (first | lia | omega), i + 1, m₂, l₂, o', by (first | lia | omega), i₂, H₇, hs'⟩
  · obtain rfl : i = n := by (first | lia | omega)
    refine (It.done h o HS.base HS.getEnd hst).mono ?_
    rintro r h₂ ⟨rfl, s₂⟩
    intro tk
    have HS' := (HS.dropEnd (by first | walk_at "mem" | simp)).keepBut s₂ fun b hb => HS.ownEnd (by first | walk_at "mem" | simp) b (by simpa using hb)
    exact ⟨m₁, HS'.ns, fun h'' hs'' => ⟨h'', tk, rfl, fin m₁ l₁ h'' hi (HS'.toExt hs'')⟩⟩
end
end Mine

end
section
open PySem PySem.W PyProof.Rows PySem.Calls
set_option Elab.async false
set_option linter.unusedVariables false
set_option maxRecDepth 100000
set_option maxHeartbeats 4000000
namespace Mine
section
variable {prog : Program} {w : World} {A : Around} {h h' h₀ h₁ : Heap} {env : Env} {D : List Addr} {m : Str → Option Value} {l : List (Addr × Obj)}
theorem kinds_of {env' env₀ : Env} {scope : Scope} {xs : List Str} {k : NameKind} (hs : env'.scope = relabel scope env) (hsc : env.scope = env₀.scope) (hk : (xs.all fun y => decide ((relabel scope env₀).names.lookup y = some k)) = true) : ∀ y ∈ xs, env'.kindOf y = some k := fun y hy => by
  unfold Env.kindOf
  rw [hs, relabel_of hsc]
  exact of_decide_eq_true (List.all_eq_true.mp hk y hy)
noncomputable def retE : Stmt → PySem.Expr
  | .Return (some e) _ => e
  | _ => .Name (Str.ofString "") ⟨0, 0, 0, 0⟩
noncomputable def compScope : PySem.Expr → Scope
  | .ListComp _ _ s _ => s
  | _ => default
theorem intsAre_take {vs : List Value} {ns : List Int} (x : IntsAre vs ns) : ∀ k, IntsAre (vs.take k) (ns.take k) := by
  induction x with
  | nil => intro k; simp; exact .nil
  | cons n t r ih =>
    intro k
    cases k with
    | zero => exact .nil
    | succ k => exact .cons n t (ih k)
theorem intsAre_drop {vs : List Value} {ns : List Int} (x : IntsAre vs ns) : ∀ k, IntsAre (vs.drop k) (ns.drop k) := by
  induction x with
  | nil => intro k; simp; exact .nil
  | cons n t r ih =>
    intro k
    cases k with
    | zero => exact .cons n t r
    | succ k => exact ih k
theorem intsAre_rep {n : Int} {t : Tok} : ∀ k, IntsAre (List.replicate k (.int n t)) (List.replicate k n)
  | 0 => .nil
  | k + 1 => .cons n t (intsAre_rep k)
theorem sw_comp {elt : PySem.Expr} {gens : List Comprehension} {scope : Scope} {pos py : Pos} {y : Str} {line : Nat} (e : EnvOk env) (hy : env.kindOf y = some .local) (hl : (py.line == pos.line) = true) (hn : (scope.names.any fun x => x.1 == y && (x.2 == .local || x.2 == .cell)) = false) : swapsWith (.ListComp elt gens scope pos) (some (.Name y py)) line env = pure true := by
  show (pure (env.blockKind == .function && env.kindOf y == some .local && py.line == pos.line && !(scope.names.any fun x => x.1 == y && (x.2 == .local || x.2 == .cell))) : Sem Bool) = pure true
  rw [blockKind_of e, hy, hl, hn]
  rfl
theorem fmod_lt {a b : Int} (hb : 0 < b) : 0 ≤ a.fmod b ∧ a.fmod b < b := ⟨Int.fmod_nonneg_of_pos a hb, Int.fmod_lt_of_pos a hb⟩
structure AmOk (am : Str → Option Value) : Prop where
  j : am (Str.ofString "isjunk") = some .none
  aj : am (Str.ofString "autojunk") = some (.bool false)
  m1 : am (Str.ofString "set_seq1") = none
  m2 : am (Str.ofString "set_seq2") = none
  m3 : am (Str.ofString "_SequenceMatcher__chain_b") = none
  m4 : am (Str.ofString "get_matching_blocks") = none
  m5 : am (Str.ofString "find_longest_match") = none
  m6 : am (Str.ofString "set_seqs") = none
noncomputable abbrev okN : List Str := [(Str.ofString "a"), (Str.ofString "b"), (Str.ofString "matching_blocks"), (Str.ofString "opcodes"), (Str.ofString "fullbcount"), (Str.ofString "b2j"), (Str.ofString "bjunk"), (Str.ofString "bpopular")]
theorem AmOk.upd {am : Str → Option Value} {y : Str} {v : Value} (x : AmOk am) (hy : y ∈ okN) : AmOk (upd am y v) := by
  have ne : ∀ {z : Str}, z ∉ okN → z ≠ y := fun hz q => hz (q ▸ hy)
  exact ⟨upd_next (ne (by decide +kernel)) x.j, upd_next (ne (by decide +kernel)) x.aj, (if_neg (ne (by decide +kernel))).trans x.m1, (if_neg (ne (by decide +kernel))).trans x.m2, (if_neg (ne (by decide +kernel))).trans x.m3, (if_neg (ne (by decide +kernel))).trans x.m4, (if_neg (ne (by decide +kernel))).trans x.m5, (if_neg (ne (by decide +kernel))).trans x.m6⟩
theorem AmOk.am2 {am : Str → Option Value} {v : Value} {d dj dp : Addr} (x : AmOk am) : AmOk (am2 am v d dj dp) :=
  ((((((x.upd (by first | walk_at "mem" | simp)).upd (by first | walk_at "mem" | simp)).upd (by first | walk_at "mem" | simp)).upd (by first | walk_at "mem" | simp)).upd (by first | walk_at "mem" | simp)).upd (by first | walk_at "mem" | simp)).upd (by first | walk_at "mem" | simp)
theorem AmOk.am0 {ax bx d dj dp : Addr} : AmOk (am0 ax bx d dj dp) := by
  refine AmOk.am2 (AmOk.upd (AmOk.upd (AmOk.upd ?_ (by first | walk_at "mem" | simp)) (by first | walk_at "mem" | simp)) (by first | walk_at "mem" | simp))
  exact ⟨by walk_at "look", by walk_at "look", by kernel_rfl!, by kernel_rfl!, by kernel_rfl!, by kernel_rfl!, by kernel_rfl!, by kernel_rfl!⟩
theorem dic_neL {L d : Addr} {o : Obj} {kvs : List (Int × Value)} {y : Str} {v : Value} (hn : h.Ns L m) (hy : m y = some v) (hd : h.get? d = some o) (hi : IsDic prog w o kvs) : d ≠ L := fun q => by
  subst q
  obtain ⟨oL, es, ep, e1, e2, sk, fd⟩ := hn
  rw [hd] at e1
  obtain rfl := Option.some.inj e1
  obtain ⟨es', ep', _, e3, hks, _⟩ := hi
  rw [e2] at e3
  have : es = es' := by cases e3; rfl
  subst this
  have := fd y
  rw [hy] at this
  unfold nsFind findBy at this
  cases e4 : es.find? (fun e => e.key.isStr y) with
  | none => rw [e4] at this; cases this
  | some e =>
    have mem := Array.mem_of_find?_eq_some e4
    obtain ⟨n, t, e5⟩ := sk e mem
    obtain ⟨k, hk'⟩ := hks e mem
    rw [e5] at hk'
    simp [intKind, Value.isInt] at hk'
theorem list_neL {L a : Addr} {us : Array Value} (hn : h.Ns L m) (hl : h.IsList a us) : a ≠ L := fun q => by
  subst q
  obtain ⟨ol, h1, h2, n, h3⟩ := hl
  obtain ⟨oL, _, _, e1, e2, _⟩ := hn
  rw [h1] at e1
  obtain rfl := Option.some.inj e1
  rw [h3] at e2; cases e2
theorem Mat.keepL {L x dx : Addr} {od : Obj} {am : Str → Option Value} {ns ms : List Int} {y : Str} {v : Value} (M : Mat prog w h x dx od am ns ms) (hn : h.Ns L m) (hy : m y = some v) (hx : x ≠ L) (hdx : dx ≠ L) (s : Sub [L] h h') : Mat prog w h' x dx od am ns ms where
  ob := s _ _ (by simpa using hx) M.ob
  dict := s _ _ (by simpa using hdx) M.dict
  attrs := M.attrs
  la := by
    obtain ⟨ax, vs, h1, h2, h3⟩ := M.la
    exact ⟨ax, vs, h1, h2.at fun o eo => s _ _ (by simpa using list_neL hn h2) eo, h3⟩
  lb := by
    obtain ⟨ax, vs, h1, h2, h3⟩ := M.lb
    exact ⟨ax, vs, h1, h2.at fun o eo => s _ _ (by simpa using list_neL hn h2) eo, h3⟩
  b2j := by
    obtain ⟨d, h1, h2⟩ := M.b2j
    refine ⟨d, h1, ?_⟩
    obtain ⟨⟨o, kvs, fam, g, di, fo, hf⟩, lo⟩ := h2
    refine ⟨⟨o, kvs, fam.filter fun p => p.1 ≠ L, s _ _ (by simpa using dic_neL hn hy g di) g, di, ⟨fun k hk => ?_, fo.no, fo.inj, fo.len⟩, fun p hp => ?_⟩, lo⟩
    · obtain ⟨a, ob, us, h1, h2, h3, h4⟩ := fo.there k hk
      refine ⟨a, ob, us, h1, List.mem_filter.mpr ⟨h2, ?_⟩, h3, h4⟩
      have := list_neL hn (h3.isList (hf _ h2))
      simpa using this
    · obtain ⟨hp, np⟩ := List.mem_filter.mp hp
      exact s _ _ (by simpa using np) (hf p hp)
  junk := by
    obtain ⟨dj, led, h1, h2⟩ := M.junk
    refine ⟨dj, led, h1, s _ _ ?_ h2⟩
    intro q
    obtain rfl : dj = L := by simpa using q
    obtain ⟨oL, _, _, e1, e2, _⟩ := hn
    rw [h2] at e1
    obtain rfl := Option.some.inj e1
    cases e2
  za := M.za
  zb := M.zb
theorem t_storeK {x : Str} {v : Value} {Q : Unit → Heap → Prop} (e : EnvOk env) (H : S h₀ D env.locals m l h) (q : ∀ h', Sub [env.locals] h h' → S h₀ D env.locals (upd m x v) l h' → Q () h') (hl : env.kindOf x = some .local) : T prog w A (storeName env x v) h Q :=
  fun s es => by subst es; exact wpAny_storeName_local hl H.ns (fun h' hn hs => ⟨h', _, rfl, q h' (Sub.same hs) (H.store hn hs)⟩) (notTop e)
end
end Mine

end
section
open PySem PySem.W PyProof.Rows PySem.Calls
set_option Elab.async false
set_option linter.unusedVariables false
set_option maxRecDepth 100000
set_option maxHeartbeats 4000000
namespace Mine
section
variable {prog : Program} {w : World} {A : Around} {h h' h₀ h₁ : Heap} {env : Env} {D : List Addr} {m : Str → Option Value} {l : List (Addr × Obj)}
noncomputable def sprB : List Stmt := bodyN (stN pwBody 7)
noncomputable abbrev sprN : List Str := [(Str.ofString "row")]
theorem fn_spread (P : Params) : FnOkC (frag P) at_law_spread fdOf_law_spread sprB :=
  ⟨⟨obOf_law_spread P, by kernel_rfl!, rfl⟩, by kernel_rfl!, by kernel_rfl!, by kernel_rfl!, by kernel_rfl!, by kernel_rfl!, by kernel_rfl!, by kernel_rfl!, by kernel_rfl!⟩
noncomputable def spreadL (ns : List Int) (f : Int) (k : Nat) : List Int := ns.flatMap fun x => x :: List.replicate k f
theorem spreadL_snoc {ns : List Int} {f x : Int} {k : Nat} : spreadL (ns ++ [x]) f k = spreadL ns f k ++ x :: List.replicate k f := by simp [spreadL]
theorem spreadL_len {f : Int} {k : Nat} : ∀ {ns : List Int}, (spreadL ns f k).length = ns.length * (k + 1)
  | [] => by simp [spreadL]
  | x :: ns => by
    have := spreadL_len (f := f) (k := k) (ns := ns)
    simp only [spreadL, List.flatMap_cons, List.length_append, List.length_cons, List.length_replicate] at this ⊢
    rw [this, Nat.add_mul]
    (first | lia | omega)
theorem intsAre_app {vs us : List Value} {ns ms : List Int} (x : IntsAre vs ns) (y : IntsAre us ms) : IntsAre (vs ++ us) (ns ++ ms) := by
  induction x with
  | nil => exact y
  | cons n t _ ih => exact .cons n t ih
theorem closureF2 {scope : Scope} {p q x y : Str} {cx cy : Addr} (hn : scope.names = [(Str.ofString ".0", .local), (p, .local), (q, .local), (x, .free), (y, .free)]) (Cx : Cel env x cx) (Cy : Cel env y cy) : closureFor scope env = pure [(y, cy), (x, cx)] := by
  simp [closureFor, hn, cellOf, Cx.look, Cy.look]
theorem spread {ra : Addr} {vs : List Value} {ns : List Int} {f : Int} {k : Nat} {tf tk : Tok} {Q : Value → Heap → Prop} (G : Gr (frag w.params) h) (hh : A.handled = none) (hroom : A.depth + 2 < recursionLimit) (hl : h.IsList ra vs.toArray) (hi : IntsAre vs ns) (hz : ns.length < 1000) (hk : k ≤ 100)
    (q : ∀ h' r o vs', Ext h [(r, o)] h' → IsLst o vs' → IntsAre vs' (spreadL ns f k) → Q (.ref r) h') :
    TC prog w A (.call (.ref at_law_spread) ⟨[.ref ra, .int f tf, .int (k : Nat) tk], []⟩) h Q := by
  have hvl := hi.length
  refine TC.defC (binds := [((Str.ofString "row"), .ref ra), ((Str.ofString "foreign"), .int f tf), ((Str.ofString "many"), .int (k : Nat) tk)]) (mL := upd (fun _ => none) (Str.ofString "row") (.ref ra)) (cM := upd (upd (fun _ => none) (Str.ofString "foreign") (.int f tf)) (Str.ofString "many") (.int (k : Nat) tk)) (cs := fun L => [((Str.ofString "many"), L + 2), ((Str.ofString "foreign"), L + 1)]) (fn_spread w.params) G (by (first | lia | omega)) (by kernel_rfl!) (fun L => by rfl) (fun L => by rfl) ?_ ?_ (fun L => by
    have a : List.lookup (Str.ofString "many") [((Str.ofString "many"), L + 2), ((Str.ofString "foreign"), L + 1)] = some (L + 2) := rfl
    have b : List.lookup (Str.ofString "foreign") [((Str.ofString "many"), L + 2), ((Str.ofString "foreign"), L + 1)] = some (L + 1) := rfl
    simp only [List.all_cons, List.all_nil, Bool.and_true, a, b, decide_true]) ?_
  · intro L
    have k1 : (callEnvC fdOf_law_spread L at_law_spread).kindOf (Str.ofString "row") = some .local := by kernel_rfl!
    have k2 : (callEnvC fdOf_law_spread L at_law_spread).kindOf (Str.ofString "foreign") = some .cell := by kernel_rfl!
    have k3 : (callEnvC fdOf_law_spread L at_law_spread).kindOf (Str.ofString "many") = some .cell := by kernel_rfl!
    simp only [bindL, k1, k2, k3, if_true]
    rw [if_neg (by first | walk_at "mem" | simp), if_neg (by first | walk_at "mem" | simp)]
    funext y; simp only [upd]
  · intro L
    have k1 : (callEnvC fdOf_law_spread L at_law_spread).kindOf (Str.ofString "row") = some .local := by kernel_rfl!
    have k2 : (callEnvC fdOf_law_spread L at_law_spread).kindOf (Str.ofString "foreign") = some .cell := by kernel_rfl!
    have k3 : (callEnvC fdOf_law_spread L at_law_spread).kindOf (Str.ofString "many") = some .cell := by kernel_rfl!
    simp only [bindC, k1, k2, k3, if_true]
    rw [if_neg (by first | walk_at "mem" | simp), if_neg (by first | walk_at "mem" | simp)]
    funext y; simp only [upd]
  intro h₁ L oc hoc H
  have e := (fn_spread w.params).ok L
  have hL : Loc (callEnvC fdOf_law_spread L at_law_spread) sprN := Loc.mk' (by kernel_rfl!)
  have CF : Cel (callEnvC fdOf_law_spread L at_law_spread) (Str.ofString "foreign") (L + 1) := ⟨by kernel_rfl!, by rfl⟩
  have CK : Cel (callEnvC fdOf_law_spread L at_law_spread) (Str.ofString "many") (L + 2) := ⟨by kernel_rfl!, by rfl⟩
  have iF : IsCel (oc (Str.ofString "foreign")) (some (.int f tf)) := by
    have := hoc ((Str.ofString "foreign"), L + 1) (by first | walk_at "mem" | simp)
    have e1 : (upd (upd (fun _ => none) (Str.ofString "foreign") (.int f tf)) (Str.ofString "many") (.int (k : Nat) tk)) (Str.ofString "foreign") = some (.int f tf) := by walk_at "look"
    rw [e1] at this; exact this
  have iK : IsCel (oc (Str.ofString "many")) (some (.int (k : Nat) tk)) := by
    have := hoc ((Str.ofString "many"), L + 2) (by first | walk_at "mem" | simp)
    have e1 : (upd (upd (fun _ => none) (Str.ofString "foreign") (.int f tf)) (Str.ofString "many") (.int (k : Nat) tk)) (Str.ofString "many") = some (.int (k : Nat) tk) := by walk_at "look"
    rw [e1] at this; exact this
  replace H : S h [] L (upd (fun _ => none) (Str.ofString "row") (.ref ra)) [(L + 2, oc (Str.ofString "many")), (L + 1, oc (Str.ofString "foreign"))] h₁ := H
  have hsc : (callEnvC fdOf_law_spread L at_law_spread).scope = (callEnvC fdOf_law_spread 0 at_law_spread).scope := rfl
  generalize hcF : L + 1 = cF at *
  generalize hcK : L + 2 = cK at *
  generalize oc (Str.ofString "foreign") = oF at *
  generalize oc (Str.ofString "many") = oK at *
  clear hoc
  generalize henv : callEnvC fdOf_law_spread L at_law_spread = env at *
  have hLo : L = env.locals := by rw [← henv]; rfl
  subst hLo
  clear henv
  have hh' : (A.deeper env).handled = none := hh
  generalize A.deeper env = A' at *
  have hclos : closureFor (compScope (retE (sprB.getD 0 (.Pass ⟨0, 0, 0, 0⟩)))) env = pure [((Str.ofString "many"), cK), ((Str.ofString "foreign"), cF)] := by
    have hn : (compScope (retE (sprB.getD 0 (.Pass ⟨0, 0, 0, 0⟩)))).names = [(Str.ofString ".0", .local), ((Str.ofString "item"), .local), ((Str.ofString "x"), .local), ((Str.ofString "foreign"), .free), ((Str.ofString "many"), .free)] := by kernel_rfl!
    exact closureF2 hn CF CK
  refine T.execs_cons (T.Return (t_ListComp2 e hclos (by kernel_rfl!) (by kernel_rfl!) (by kernel_rfl!) (fun _ _ => by rfl) ?_))
  walk_at "nm"
  refine ⟨_, _, t_iterListN hh' (hl.at fun o eo => H.old eo (by first | walk_at "mem" | simp)), fun env' acc oacc e' sc' cl' lacc => ?_⟩
  have kx : Loc env' [(Str.ofString "item"), (Str.ofString "x")] := ⟨kinds_of sc' (env₀ := callEnvC fdOf_law_spread 0 at_law_spread) hsc (by kernel_rfl!)⟩
  have kf : ∀ y ∈ [(Str.ofString "foreign"), (Str.ofString "many")], env'.kindOf y = some .cell := kinds_of sc' (env₀ := callEnvC fdOf_law_spread 0 at_law_spread) hsc (by kernel_rfl!)
  have lF : env'.cells.lookup (Str.ofString "foreign") = some cF := by rw [cl']; rfl
  have lK : env'.cells.lookup (Str.ofString "many") = some cK := by rw [cl']; rfl
  refine ⟨fun i m₁ l₁ => ∃ oa va, l₁ = [(acc, oa)] ∧ IsLst oa va ∧ IntsAre va (spreadL (ns.take i) f k), ⟨oacc, [], rfl, lacc, by simp [spreadL]; exact .nil⟩, ?_, ?_⟩
  · rintro i v m₁ l₁ I o h₂ hi2 hv ⟨oa, va, rfl, la, ia⟩ H₂
    have hlt : i < ns.length := by (first | lia | omega)
    obtain ⟨tx, hx⟩ := hi.get i (ns[i]) (List.getElem?_eq_getElem hlt)
    rw [hx] at hv
    obtain rfl := Option.some.inj hv
    refine t_assignName e' H₂ (fun h₃ H₃ => ?_) (kx.of (by first | walk_at "mem" | simp))
    refine T.BinOp (t_List ?_ rfl)
    walk_at "nm"
    refine ⟨by show 1 ≤ sizeLine; decide, fun r1 h₄ o₄ s₄ n₄ g₄ l₄ => ?_⟩
    have H₄ := H₃.add s₄ n₄ g₄
    refine T.BinOp (t_List ?_ rfl)
    refine t_NameC e' (kf _ (by first | walk_at "mem" | simp)) lF (H₄.base _ _ (by first | walk_at "mem" | simp) (H.get (by first | walk_at "mem" | simp))) iF ?_ (by decide +kernel)
    refine ⟨by show 1 ≤ sizeLine; decide, fun r2 h₅ o₅ s₅ n₅ g₅ l₅ => ?_⟩
    have H₅ := H₄.add s₅ n₅ g₅
    refine t_NameC e' (kf _ (by first | walk_at "mem" | simp)) lK (H₅.base _ _ (by first | walk_at "mem" | simp) (H.get (by first | walk_at "mem" | simp))) iK ?_ (by decide +kernel)
    refine t_mulList H₅ g₅ l₅ (by (first | lia | omega)) (by (first | lia | omega)) fun r3 h₆ o₆ H₆ k₆ n₆ l₆ => ?_
    rw [show (k : Int).toNat = k by (first | lia | omega)] at l₆
    refine t_addLists (l₄.isList (H₆.get (by first | walk_at "mem" | simp))) (l₆.isList (H₆.get (by first | walk_at "mem" | simp))) (by rw [sizeLine_eq]; simp; (first | lia | omega)) fun r4 h₇ o₇ s₇ n₇ g₇ l₇ => ?_
    have H₇ := H₆.add s₇ n₇ g₇
    have i₇ : IntsAre ([Value.int (ns[i]) tx] ++ List.replicate k (.int f tf)) (ns[i] :: List.replicate k f) := .cons _ _ (intsAre_rep k)
    generalize hw : [Value.int (ns[i]) tx] ++ List.replicate k (Value.int f tf) = vw at l₇ i₇
    have hvw := i₇.length
    simp only [List.length_cons, List.length_replicate] at hvw
    have hva := ia.length
    rw [spreadL_len, List.length_take] at hva
    have hb : min i ns.length * (k + 1) ≤ 1000 * 101 := Nat.mul_le_mul (by (first | lia | omega)) (by (first | lia | omega))
    have H₈ : S h₁ [] env'.locals _ ((acc, oa) :: (r4, o₇) :: [(I, o)]) h₇ := (H₇.drop (l' := (r4, o₇) :: (acc, oa) :: [(I, o)]) (.cons_cons _ (.cons _ (.cons _ (.cons _ (List.Sublist.refl _))))) (by first | walk_at "mem" | simp)).perm (List.Perm.swap _ _ _)
    refine tl_all e' hh' (kx.of (by first | walk_at "mem" | simp)) (by decide +kernel) l₇ la (by rw [sizeLine_eq]; (first | lia | omega)) H₈ fun h₈ m₈ o₈ _ l₈ H₉ => ?_
    refine ⟨_, [(acc, o₈)], ⟨o₈, _, rfl, l₈, ?_⟩, H₉.drop (.cons_cons _ (.cons _ (List.Sublist.refl _))) (by first | walk_at "mem" | simp)⟩
    rw [List.take_add_one, List.getElem?_eq_getElem hlt]
    show IntsAre _ (spreadL (ns.take i ++ [ns[i]]) f k)
    rw [spreadL_snoc]
    exact intsAre_app ia i₇
  · rintro m₁ l₂ h₂ ⟨oa, va, rfl, la, ia⟩ X₂
    rw [hvl, List.take_length] at ia
    have H₂ := H.ext X₂
    have H₃ : S h [] env.locals _ [(acc, oa)] h₂ := H₂.drop (.cons_cons _ (.cons _ (.cons _ (List.Sublist.refl _)))) (by first | walk_at "mem" | simp)
    exact q h₂ acc oa va (H₃.toExt (Heap.SameBut.refl _ _)) la ia
end
end Mine

end
section
open PySem PySem.W PyProof.Rows PySem.Calls
set_option Elab.async false
set_option linter.unusedVariables false
set_option maxRecDepth 100000
set_option maxHeartbeats 4000000
namespace Mine
section
variable {prog : Program} {w : World} {A : Around} {h h' h₀ h₁ : Heap} {env : Env} {D : List Addr} {m : Str → Option Value} {l : List (Addr × Obj)}
inductive RngCI (h₀ : Heap) (D : List Addr) (L c I : Addr) (n : Nat) (Inv : Nat → (Str → Option Value) → List (Addr × Obj) → Prop) (k : Nat) (h : Heap) : Prop
  | mk (i : Nat) (m₁ : Str → Option Value) (l₁ : List (Addr × Obj)) (o oc : Obj) (v : Option Value) (x1 : (k : Int) + (i : Int) = (n : Int) - 0) (x2 : Inv i m₁ l₁) (x3 : IsCel oc v) (x4 : S h₀ D L m₁ (((c, oc) :: l₁) ++ [(I, o)]) h) (x5 : IsRangeIter h I (0 + (i : Int)) ((n : Int) - 0 - (i : Int)) 1)
theorem tf_range1C {x : Str} {px : Pos} {c : Addr} {oc : Obj} {v₀ : Option Value} {n : Nat} {t : Tok} {body : List Stmt} {Q : Flow → Heap → Prop} (e : EnvOk env) (hh : A.handled = none) (C : Cel env x c) (hv : IsCel oc v₀) (H : S h₀ D env.locals m ((c, oc) :: l) h) (hb : n ≤ 1000000)
    (Inv : Nat → (Str → Option Value) → List (Addr × Obj) → Prop) (hD : ∀ i m l, Inv i m l → ∀ d ∈ D, d ∈ l.map (·.1)) (h0 : Inv 0 m l)
    (turn : ∀ (i : Nat) t m₁ l₁ I o oc h, i < n → Inv i m₁ l₁ → IsCel oc (some (.int i t)) → S h₀ D env.locals m₁ ((c, oc) :: (l₁ ++ [(I, o)])) h → T prog w A (execs body env) h fun f h₃ => match f with
      | .next | .cont => ∃ m₂ l₂ oc₂ v₂, Inv (i + 1) m₂ l₂ ∧ IsCel oc₂ v₂ ∧ S h₀ D env.locals m₂ ((c, oc₂) :: (l₂ ++ [(I, o)])) h₃
      | .brk => Q .next h₃
      | .ret v => Q (.ret v) h₃)
    (done : ∀ m₁ l₁ oc v h, Inv n m₁ l₁ → IsCel oc v → S h₀ D env.locals m₁ ((c, oc) :: l₁) h → Q .next h) :
    T prog w A (PySem.call (.type "range") [.int n t]) h fun ev h₁ => T prog w A (pyIter ev) h₁ fun it h₂ => TF prog w A (.forLoop (.Name x px) it body [] env) h₂ Q := fun s es => by
  subst es
  refine call_range_1 ⟨_, _, rfl, fun s₁ es₁ => ?_⟩
  have hR := IsRange.new s.heap 0 n 1 s.toks t (s.toks + 1)
  have HR : S h₀ D env.locals m ((c, oc) :: l) s₁.heap := by rw [es₁]; exact H.sub (Sub.push _ _)
  rw [← es₁] at hR
  refine wpAny_pyIter_range hR (small_one (by (first | lia | omega)) (by (first | lia | omega)) (by (first | lia | omega)) (by (first | lia | omega))) ⟨_, s₁.toks, rfl, ?_⟩
  have HI := HR.addEnd (Sub.push _ { cls := .type "range_iterator", data := .fields #[rawInt 0, rawInt (Builtin.Range.rangeSize 0 n 1), rawInt 1] }) (get_size_none _) (get_push_self _ _)
  have hsz : Builtin.Range.rangeSize 0 n 1 = (n : Int) - 0 := by rw [rangeSize_one]; split <;> (first | lia | omega)
  rw [hsz] at HI
  rw [hsz]
  generalize hI : s₁.heap.objs.size = I at *
  refine TF.forLoop (RngCI h₀ D env.locals c I n Inv) ?_ ((n : Int) - 0).toNat ⟨0, m, l, _, oc, v₀, by (first | lia | omega), h0, hv, HI, by simpa using HI.getEnd⟩
  rintro k h ⟨i, m₁, l₁, o, oc₁, v₁, hk, hi, hv₁, HS, hit⟩
  intro s' es'
  subst es'
  by_cases hlt : 0 + (i : Int) < (n : Int)
  · refine wpAny_pyNext_range_item hit (by (first | lia | omega)) fun h₁ hit₁ hs₁ => ⟨h₁, _, rfl, ?_⟩
    have H₁ := HS.updEnd (Sub.same hs₁) hit₁
    generalize ho₁ : ({ cls := .type "range_iterator", dict := none, data := .fields #[rawInt (0 + (i : Int) + 1), rawInt ((n : Int) - 0 - (i : Int) - 1), rawInt 1], slots := #[] } : Obj) = o₁ at H₁
    refine T.eq rfl (T.pure ?_)
    refine T.of fun s₂ es₂ => wpAny_assign_Name (t_storeL e C H₁ hv₁ (fun h₂ oc₂ hv₂ H₂ => ?_) s₂ es₂)
    refine (turn i _ m₁ l₁ _ _ oc₂ h₂ (by (first | lia | omega)) hi (by simpa using hv₂) H₂).mono fun f h₃ z => ?_
    have fin : (∃ m₂ l₂ oc₂ v₂, Inv (i + 1) m₂ l₂ ∧ IsCel oc₂ v₂ ∧ S h₀ D env.locals m₂ ((c, oc₂) :: (l₂ ++ [(I, o₁)])) h₃) → ∃ k', k' < k ∧ RngCI h₀ D env.locals c I n Inv k' h₃ := by
      rintro ⟨m₂, l₂, oc₃, v₃, i₂, hv₃, H₃⟩
      refine ⟨k - 1, by (first | lia | omega), i + 1, m₂, l₂, _, oc₃, v₃, by (first | lia | omega), i₂, hv₃, H₃, ?_⟩
      have : h₃.get? I = some o₁ := H₃.get (by first | walk_at "mem" | simp)
      have e1 : 0 + ((i + 1 : Nat) : Int) = 0 + (i : Int) + 1 := by (first | lia | omega)
      have e2 : (n : Int) - 0 - ((i + 1 : Nat) : Int) = (n : Int) - 0 - (i : Int) - 1 := by (first | lia | omega)
      rw [e1, e2]; rw [← ho₁] at this; exact this
    cases f with
    | next => exact fin z
    | cont => exact fin z
    | brk => exact z
    | ret v => exact z
  · refine wpAny_pyNext_range_end hh hit (by (first | lia | omega)) fun h' hx => ⟨h', s'.toks, rfl, ?_⟩
    obtain rfl : i = n := by (first | lia | omega)
    have hD' : ∀ d ∈ D, d ∈ ((c, oc₁) :: l₁).map (·.1) := fun d hd => by
      rw [List.map_cons]; exact .tail _ (hD _ _ _ hi d hd)
    exact done m₁ l₁ oc₁ v₁ h' hi hv₁ ((HS.dropEnd hD').keepBut (Sub.ext hx) fun b hb => HS.ownEnd hD' b (by simpa using hb))
end
end Mine

end
section
set_option linter.unusedVariables false
namespace Mine
noncomputable def NT (x y : Nat × Nat × Nat) : Prop := ¬ (x.1 + x.2.2 = y.1 ∧ x.2.1 + x.2.2 = y.2.1)
section
variable {a b : List Int} {alo ahi blo bhi i j k : Nat} {W : List (Nat × Nat × Nat)}
theorem Blk.eqs (h : Blk a b alo ahi blo bhi W) : ∀ x ∈ W, ∀ t, t < x.2.2 → x.1 + t < a.length ∧ a[x.1 + t]? = b[x.2.1 + t]? := by
  induction h with
  | none _ => simp
  | some hB hk _ _ i1 i2 =>
    intro x hx
    rcases List.mem_append.mp hx with hx | hx
    · exact i1 x hx
    · rcases List.mem_cons.mp hx with rfl | hx
      · exact hB.eq
      · exact i2 x hx
theorem join_eqs {x y : Nat × Nat × Nat} (hx : ∀ t, t < x.2.2 → x.1 + t < a.length ∧ a[x.1 + t]? = b[x.2.1 + t]?) (hy : ∀ t, t < y.2.2 → y.1 + t < a.length ∧ a[y.1 + t]? = b[y.2.1 + t]?) (e1 : x.1 + x.2.2 = y.1) (e2 : x.2.1 + x.2.2 = y.2.1) :
    ∀ t, t < x.2.2 + y.2.2 → x.1 + t < a.length ∧ a[x.1 + t]? = b[x.2.1 + t]? := fun t ht => by
  rcases Nat.lt_or_ge t x.2.2 with c | c
  · exact hx t c
  · have := hy (t - x.2.2) (by (first | lia | omega))
    rw [show y.1 + (t - x.2.2) = x.1 + t by (first | lia | omega), show y.2.1 + (t - x.2.2) = x.2.1 + t by (first | lia | omega)] at this
    exact this
theorem Blk.apart (h : Blk a b alo ahi blo bhi W) : W.Pairwise NT := by
  induction h with
  | none _ => exact .nil
  | @some _ _ _ _ i j k _ _ hB hk hL hR i1 i2 =>
    have e1 := hB.inA
    have e2 := hB.inB
    have wL := hL.within.1
    have wR := hR.within.1
    refine List.pairwise_append.mpr ⟨i1, List.pairwise_cons.mpr ⟨fun y hy => ?_, i2⟩, fun x hx y hy => ?_⟩
    · rintro ⟨q1, q2⟩
      have w := wR y hy
      have wa := w.a; have wb := w.b; have wp := w.pos
      have q := join_eqs (x := (i, j, k)) hB.eq (hR.eqs y hy) q1 q2
      dsimp only at q1 q2 q
      have := hB.max i j (k + y.2.2) (by (first | lia | omega)) (by (first | lia | omega)) (by (first | lia | omega)) (by (first | lia | omega)) q
      (first | lia | omega)
    · have w := wL x hx
      have wa := w.a; have wb := w.b; have wp := w.pos
      rcases List.mem_cons.mp hy with rfl | hy
      · rintro ⟨q1, q2⟩
        have q := join_eqs (y := (i, j, k)) (hL.eqs x hx) hB.eq q1 q2
        dsimp only at q1 q2 q
        have := hB.max x.1 x.2.1 (x.2.2 + k) (by (first | lia | omega)) (by (first | lia | omega)) (by (first | lia | omega)) (by (first | lia | omega)) q
        (first | lia | omega)
      · have w' := wR y hy
        have := w'.a; have := w'.b
        rintro ⟨q1, q2⟩
        (first | lia | omega)
theorem merge_apart : ∀ {W : List (Nat × Nat × Nat)} {c : Nat × Nat × Nat}, (∀ x ∈ W, 0 < x.2.2) → (c :: W).Pairwise NT → merge c W = (if c.2.2 = 0 then [] else [c]) ++ W
  | [], c, _, _ => by simp [merge]
  | x :: r, c, hp, hn => by
    have h1 := List.pairwise_cons.mp hn
    have := h1.1 x (.head _)
    have hx := hp x (.head _)
    rw [merge, if_neg this, merge_apart (fun y hy => hp y (.tail _ hy)) h1.2, if_neg (show ¬ x.2.2 = 0 by (first | lia | omega))]
    rfl
theorem Blk.merge (h : Blk a b alo ahi blo bhi W) : merge (0, 0, 0) W = W := by
  have ap := h.apart
  have po : ∀ x ∈ W, 0 < x.2.2 := fun x hx => (h.within.1 x hx).pos
  cases W with
  | nil => rfl
  | cons x r =>
    have p' : ∀ y ∈ r, 0 < y.2.2 := fun y hy => po y (.tail _ hy)
    have px := po x (.head _)
    rw [Mine.merge]
    split
    · next c =>
      obtain ⟨x1, x2, x3⟩ := x
      simp only at c px
      obtain ⟨rfl, rfl⟩ : x1 = 0 ∧ x2 = 0 := ⟨c.1.symm, c.2.symm⟩
      simp only [Nat.zero_add]
      rw [merge_apart p' ap, if_neg (by simp only; (first | lia | omega))]
      rfl
    · rw [merge_apart p' ap, if_neg (show ¬ x.2.2 = 0 by (first | lia | omega))]
      rfl
theorem Blk.emptyA (h : Blk a b alo alo blo bhi W) : W = [] := List.length_eq_zero_iff.mp (by have := h.len; (first | lia | omega))
end
end Mine

end
section
set_option linter.unusedVariables false
namespace Mine
section
variable {a b one other : List Int} {alo ahi blo bhi i j k p q : Nat} {f g : Int} {W : List (Nat × Nat × Nat)} {ps : List (Nat × Nat)}
inductive Gd (a b : List Int) (ahi bhi : Nat) : Nat → Nat → List (Nat × Nat) → Prop
  | done {k : Nat} : Gd a b ahi bhi ahi k []
  | hit {i k j : Nat} {ps : List (Nat × Nat)} : i < ahi → k ≤ j → j < bhi → a[i]? = b[j]? → (∀ j', k ≤ j' → j' < j → a[i]? ≠ b[j']?) → Gd a b ahi bhi (i + 1) (j + 1) ps → Gd a b ahi bhi i k ((i, j) :: ps)
  | miss {i k : Nat} {ps : List (Nat × Nat)} : i < ahi → (∀ j', k ≤ j' → j' < bhi → a[i]? ≠ b[j']?) → Gd a b ahi bhi (i + 1) k ps → Gd a b ahi bhi i k ps
theorem Gd.det (x : Gd a b ahi bhi i k ps) : ∀ {qs : List (Nat × Nat)}, Gd a b ahi bhi i k qs → ps = qs := by
  induction x with
  | done =>
    intro qs y
    cases y with
    | done => rfl
    | hit h1 => (first | lia | omega)
    | miss h1 => (first | lia | omega)
  | @hit i k j ps h1 h2 h3 h4 h5 h6 ih =>
    intro qs y
    cases y with
    | done => (first | lia | omega)
    | @hit _ _ j' qs g1 g2 g3 g4 g5 g6 =>
      obtain rfl : j = j' := by
        rcases Nat.lt_trichotomy j j' with c | c | c
        · exact absurd h4 (g5 j h2 c)
        · exact c
        · exact absurd g4 (h5 j' g2 c)
      rw [ih g6]
    | miss g1 g2 g3 => exact absurd h4 (g2 j h2 h3)
  | @miss i k ps h1 h2 h3 ih =>
    intro qs y
    cases y with
    | done => (first | lia | omega)
    | @hit _ _ j' qs g1 g2 g3 g4 g5 g6 => exact absurd g4 (h2 j' g2 g3)
    | miss g1 g2 g3 => exact ih g3
theorem Gd.len (x : Gd a b ahi bhi i k ps) : ps.length + i ≤ ahi := by
  induction x with
  | done => simp
  | hit _ _ _ _ _ _ ih => simp; (first | lia | omega)
  | miss _ _ _ ih => (first | lia | omega)
theorem Gd.misses : ∀ {n : Nat}, i = alo + n → i ≤ ahi → (∀ i', alo ≤ i' → i' < i → ∀ j', k ≤ j' → j' < bhi → a[i']? ≠ b[j']?) → Gd a b ahi bhi i k ps → Gd a b ahi bhi alo k ps := by
  intro n
  induction n generalizing alo with
  | zero => intro e _ _ x; rwa [show alo = i by (first | lia | omega)]
  | succ n ih =>
    intro e h1 h2 x
    exact .miss (by (first | lia | omega)) (h2 alo (Nat.le_refl _) (by (first | lia | omega))) (ih (by (first | lia | omega)) h1 (fun i' c => h2 i' (by (first | lia | omega))) x)
theorem Blk.gd (h : Blk a b alo ahi blo bhi W) : ahi ≤ a.length → alo ≤ ahi → (∀ i j, i + 1 < ahi → j + 1 < bhi → a[i]? = b[j]? → a[i + 1]? ≠ b[j + 1]?) → ∃ ps, W = ps.map (fun x => (x.1, x.2, 1)) ∧ Gd a b ahi bhi alo blo ps := by
  induction h with
  | @none alo ahi blo bhi i j hB =>
    intro hA hl thin
    refine ⟨[], rfl, Gd.misses (i := ahi) (n := ahi - alo) (by (first | lia | omega)) (by (first | lia | omega)) (fun i' c1 c2 j' c3 c4 z => ?_) .done⟩
    have := hB.max i' j' 1 c1 (by (first | lia | omega)) c3 (by (first | lia | omega)) fun t ht => by
      obtain rfl : t = 0 := by (first | lia | omega)
      exact ⟨by (first | lia | omega), z⟩
    (first | lia | omega)
  | @some alo ahi blo bhi i j k L R hB hk hL hR i1 i2 =>
    intro hA hl thin
    have e1 := hB.inA
    have e2 := hB.inB
    obtain rfl : k = 1 := by
      rcases Nat.lt_or_ge k 2 with c | c
      · (first | lia | omega)
      · exact absurd (hB.eq 1 (by (first | lia | omega))).2 (thin i j (by (first | lia | omega)) (by (first | lia | omega)) (hB.eq 0 (by (first | lia | omega))).2)
    have mx : ∀ i' j', alo ≤ i' → i' < ahi → blo ≤ j' → j' < bhi → a[i']? = b[j']? → i < i' ∨ (i = i' ∧ j ≤ j') := fun i' j' c1 c2 c3 c4 z => by
      have := hB.max i' j' 1 c1 (by (first | lia | omega)) c3 (by (first | lia | omega)) fun t ht => by
        obtain rfl : t = 0 := by (first | lia | omega)
        exact ⟨by (first | lia | omega), z⟩
      (first | lia | omega)
    have eL : L = [] := by
      cases L with
      | nil => rfl
      | cons x r =>
        have w := hL.within.1 x (.head _)
        have z := (hL.eqs x (.head _) 0 w.pos).2
        have wa := w.a
        have wb := w.b
        have wp := w.pos
        have := mx x.1 x.2.1 wa.1 (by (first | lia | omega)) wb.1 (by (first | lia | omega)) z
        (first | lia | omega)
    subst eL
    obtain ⟨ps, rfl, x⟩ := i2 hA (by (first | lia | omega)) thin
    refine ⟨(i, j) :: ps, rfl, Gd.misses (i := i) (n := i - alo) (by (first | lia | omega)) (by (first | lia | omega)) (fun i' c1 c2 j' c3 c4 z => ?_) (.hit (by (first | lia | omega)) e2.1 (by (first | lia | omega)) (hB.eq 0 (by (first | lia | omega))).2 (fun j' c1 c2 z => ?_) x)⟩
    · have := mx i' j' c1 (by (first | lia | omega)) c3 c4 z; (first | lia | omega)
    · have := mx i j' e1.1 (by (first | lia | omega)) c1 (by (first | lia | omega)) z; (first | lia | omega)
structure Spr (a one : List Int) (p : Nat) (f : Int) : Prop where
  pos : 0 < p
  len : p * one.length ≤ a.length
  item : ∀ i, i < one.length → a[p * i]? = one[i]?
  gap : ∀ k, k < p * one.length → k % p ≠ 0 → a[k]? = some f
theorem Spr.plain (a : List Int) (f : Int) : Spr a a 1 f := ⟨by (first | lia | omega), by (first | lia | omega), fun i _ => by rw [Nat.one_mul], fun k _ h => by (first | lia | omega)⟩
theorem Spr.app (A : Spr a one p f) (r : List Int) : Spr (a ++ r) one p f := ⟨A.pos, by have := A.len; simp; (first | lia | omega), fun i hi => by
  have h1 : p * i < p * one.length := Nat.mul_lt_mul_of_pos_left hi A.pos
  have := A.len
  rw [List.getElem?_append_left (by (first | lia | omega)), A.item i hi], fun k h1 h2 => by
  have := A.len
  rw [List.getElem?_append_left (by (first | lia | omega)), A.gap k h1 h2]⟩
theorem Spr.at (A : Spr a one p f) {k : Nat} (hk : k < p * one.length) : (k % p = 0 ∧ ∃ i, k = p * i ∧ i < one.length ∧ a[k]? = one[i]?) ∨ (k % p ≠ 0 ∧ a[k]? = some f) := by
  by_cases c : k % p = 0
  · refine .inl ⟨c, k / p, ?_, ?_, ?_⟩
    · have := Nat.div_add_mod k p; (first | lia | omega)
    · exact Nat.div_lt_of_lt_mul hk
    · have e : p * (k / p) = k := by have := Nat.div_add_mod k p; (first | lia | omega)
      have := A.item (k / p) (Nat.div_lt_of_lt_mul hk)
      rwa [e] at this
  · exact .inr ⟨c, A.gap k hk c⟩
theorem spread_gd (A : Spr a one p f) (B : Spr b other q g) (hfg : f ≠ g) (hf : f ∉ other) (hg : g ∉ one) (h : Gd one other one.length other.length i k ps) :
    ∀ k', k' ≤ q * k → (∀ x, k' ≤ x → x % q = 0 → q * k ≤ x) → Gd a b (p * one.length) (q * other.length) (p * i) k' (ps.map fun x => (p * x.1, q * x.2)) := by
  have gapA : ∀ i, i < one.length → ∀ {k' ps}, Gd a b (p * one.length) (q * other.length) (p * (i + 1)) k' ps → Gd a b (p * one.length) (q * other.length) (p * i + 1) k' ps := fun i hi k' ps x => by
    have h1 : p * (i + 1) ≤ p * one.length := Nat.mul_le_mul_left _ hi
    have h0 := A.pos
    have h2 : p * (i + 1) = p * i + p := Nat.mul_succ _ _
    refine Gd.misses (i := p * (i + 1)) (n := p - 1) (by (first | lia | omega)) h1 (fun x c1 c2 y c3 c4 z => ?_) x
    have e : a[x]? = some f := by
      refine A.gap x (by (first | lia | omega)) fun w => ?_
      have := Nat.div_add_mod x p
      rw [w, Nat.add_zero] at this
      have l1 : i < x / p := Nat.lt_of_mul_lt_mul_left (a := p) (by (first | lia | omega))
      have l2 : x / p < i + 1 := Nat.lt_of_mul_lt_mul_left (a := p) (by (first | lia | omega))
      (first | lia | omega)
    rw [e] at z
    rcases B.at c4 with ⟨_, y', _, hy, w⟩ | ⟨_, w⟩
    · rw [w] at z
      exact hf (List.mem_of_getElem? z.symm)
    · rw [w] at z
      exact hfg (Option.some.inj z)
  have noB : ∀ {i x : Nat}, i < one.length → x < q * other.length → a[p * i]? = b[x]? → ∃ x', x = q * x' ∧ x' < other.length ∧ one[i]? = other[x']? ∧ x % q = 0 := fun {i x} hi hx z => by
    rw [A.item i hi] at z
    rcases B.at hx with ⟨w0, y, e, hy, w⟩ | ⟨_, w⟩
    · exact ⟨y, e, hy, z.trans w, w0⟩
    · rw [w] at z
      exact absurd (List.mem_of_getElem? z) hg
  induction h with
  | done => intro k' _ _; exact .done
  | @hit i k j ps h1 h2 h3 h4 h5 h6 ih =>
    intro k' c1 c2
    have l1 : p * i < p * one.length := Nat.mul_lt_mul_of_pos_left h1 A.pos
    have l2 : q * j < q * other.length := Nat.mul_lt_mul_of_pos_left h3 B.pos
    have l3 : q * k ≤ q * j := Nat.mul_le_mul_left _ h2
    have l4 : q * (j + 1) = q * j + q := Nat.mul_succ _ _
    have l5 := B.pos
    show Gd a b _ _ (p * i) k' ((p * i, q * j) :: ps.map fun x => (p * x.1, q * x.2))
    refine .hit l1 (by (first | lia | omega)) l2 (by rw [A.item i h1, B.item j h3]; exact h4) (fun x d1 d2 z => ?_) (gapA i h1 (ih (q * j + 1) (by (first | lia | omega)) fun x d1 d2 => ?_))
    · obtain ⟨x', rfl, e2, e3, e4⟩ := noB h1 (by (first | lia | omega)) z
      have := c2 _ d1 e4
      exact h5 x' (Nat.le_of_mul_le_mul_left this B.pos) (Nat.lt_of_mul_lt_mul_left (a := q) d2) e3
    · have e := Nat.div_add_mod x q
      rw [d2, Nat.add_zero] at e
      have : j < x / q := Nat.lt_of_mul_lt_mul_left (a := q) (by (first | lia | omega))
      rw [← e]
      exact Nat.mul_le_mul_left _ this
  | @miss i k ps h1 h2 h3 ih =>
    intro k' c1 c2
    have l1 : p * i < p * one.length := Nat.mul_lt_mul_of_pos_left h1 A.pos
    refine .miss l1 (fun x d1 d2 z => ?_) (gapA i h1 (ih k' c1 c2))
    obtain ⟨x', rfl, e2, e3, e4⟩ := noB h1 d2 z
    exact h2 x' (Nat.le_of_mul_le_mul_left (c2 _ d1 e4) B.pos) e2 e3
theorem spread_blk (A : Spr a one p f) (B : Spr b other q g) (hfg : f ≠ g) (hf : f ∉ other) (hg : g ∉ one) (hpq : 2 ≤ p ∨ 2 ≤ q) (x : Gd one other one.length other.length 0 0 ps) (h : Blk a b 0 (p * one.length) 0 (q * other.length) W) : W = ps.map fun x => (x.1 * p, x.2 * q, 1) := by
  obtain ⟨qs, rfl, y⟩ := h.gd A.len (Nat.zero_le _) fun i j c1 c2 z1 z2 => by
    have two : ∀ {n : Nat} (k : Nat), 2 ≤ n → k % n ≠ 0 ∨ (k + 1) % n ≠ 0 := fun {n} k hn => by
      by_cases c : k % n = 0
      · refine .inr ?_
        rw [Nat.add_mod, c, Nat.zero_add, Nat.mod_mod, Nat.mod_eq_of_lt (by (first | lia | omega) : 1 < n)]
        (first | lia | omega)
      · exact .inl c
    have badA : ∀ {i j : Nat}, i < p * one.length → j < q * other.length → i % p ≠ 0 → a[i]? ≠ b[j]? := fun {i j} c1 c2 c3 z => by
      rw [A.gap i c1 c3] at z
      rcases B.at c2 with ⟨_, y, _, hy, w⟩ | ⟨_, w⟩
      · rw [w] at z; exact hf (List.mem_of_getElem? z.symm)
      · rw [w] at z; exact hfg (Option.some.inj z)
    have badB : ∀ {i j : Nat}, i < p * one.length → j < q * other.length → j % q ≠ 0 → a[i]? ≠ b[j]? := fun {i j} c1 c2 c3 z => by
      rw [B.gap j c2 c3] at z
      rcases A.at c1 with ⟨_, y, _, hy, w⟩ | ⟨_, w⟩
      · rw [w] at z; exact hg (List.mem_of_getElem? z)
      · rw [w] at z; exact hfg (Option.some.inj z)
    rcases hpq with hp | hq
    · rcases two i hp with c | c
      · exact badA (by (first | lia | omega)) (by (first | lia | omega)) c z1
      · exact badA (by (first | lia | omega)) (by (first | lia | omega)) c z2
    · rcases two j hq with c | c
      · exact badB (by (first | lia | omega)) (by (first | lia | omega)) c z1
      · exact badB (by (first | lia | omega)) (by (first | lia | omega)) c z2
  have := (spread_gd A B hfg hf hg x 0 (by (first | lia | omega)) fun x _ _ => by (first | lia | omega))
  rw [Nat.mul_zero] at this
  rw [y.det this, List.map_map]
  refine List.map_congr_left fun x _ => ?_
  simp [Nat.mul_comm]
theorem new_blk {so : List Int} {n1 n2 : Int} (B : Spr so other q g) (hl : so.length = q * other.length) (hq : 2 ≤ q) (h1 : n1 ∉ one) (h2 : n2 ∉ one) (h3 : n1 ∉ other) (h4 : n2 ∉ other) (h5 : n1 ≠ g) (h6 : n2 ≠ g) (h7 : n1 ≠ n2) (hg : g ∉ one) (hf : f ∉ other) (hfg : f ≠ g)
    (x : Gd one other one.length other.length 0 0 ps) (h : Blk (one ++ [n1, n2]) (so ++ [n1, n2]) 0 (one.length + 2) 0 (q * other.length + 2) W) : W = (ps.map fun x => (x.1, x.2 * q, 1)) ++ [(one.length, q * other.length, 2)] := by
  have at0 : (one ++ [n1, n2])[one.length]? = some n1 := by simp
  have at1 : (one ++ [n1, n2])[one.length + 1]? = some n2 := by rw [List.getElem?_append_right (by (first | lia | omega))]; simp
  have bt0 : (so ++ [n1, n2])[q * other.length]? = some n1 := by rw [← hl]; simp
  have bt1 : (so ++ [n1, n2])[q * other.length + 1]? = some n2 := by rw [← hl, List.getElem?_append_right (by (first | lia | omega))]; simp
  have run : ∀ t, t < 2 → one.length + t < (one ++ [n1, n2]).length ∧ (one ++ [n1, n2])[one.length + t]? = (so ++ [n1, n2])[q * other.length + t]? := fun t ht => by
    refine ⟨by simp; (first | lia | omega), ?_⟩
    rcases (by (first | lia | omega) : t = 0 ∨ t = 1) with rfl | rfl
    · rw [Nat.add_zero, Nat.add_zero, at0, bt0]
    · rw [at1, bt1]
  have inB : ∀ {j : Nat} {n : Int}, (so ++ [n1, n2])[j]? = some n → j < q * other.length → n = g ∨ n ∈ other := fun {j n} e hj => by
    rw [List.getElem?_append_left (by (first | lia | omega))] at e
    rcases B.at hj with ⟨_, y, _, hy, w⟩ | ⟨_, w⟩
    · rw [w] at e; exact .inr (List.mem_of_getElem? e)
    · rw [w] at e; exact .inl (Option.some.inj e).symm
  have isN1 : ∀ {j : Nat}, (so ++ [n1, n2])[j]? = some n1 → j < q * other.length + 2 → j = q * other.length := fun {j} e hj => by
    rcases Nat.lt_or_ge j (q * other.length) with c | c
    · rcases inB e c with z | z
      · exact absurd z h5
      · exact absurd z h3
    · rcases (by (first | lia | omega) : j = q * other.length ∨ j = q * other.length + 1) with rfl | rfl
      · rfl
      · rw [bt1] at e; exact absurd (Option.some.inj e).symm h7
  cases h with
  | none hB =>
    have := hB.max one.length (q * other.length) 2 (by (first | lia | omega)) (by (first | lia | omega)) (by (first | lia | omega)) (by (first | lia | omega)) run
    (first | lia | omega)
  | @some _ _ _ _ i j k L R hB hk hL hR =>
    have mx := hB.max one.length (q * other.length) 2 (by (first | lia | omega)) (by (first | lia | omega)) (by (first | lia | omega)) (by (first | lia | omega)) run
    have e1 := hB.inA
    have e2 := hB.inB
    have k2 : 2 ≤ k := by (first | lia | omega)
    have z0 := (hB.eq 0 (by (first | lia | omega))).2
    have z1 := (hB.eq 1 (by (first | lia | omega))).2
    rw [Nat.add_zero, Nat.add_zero] at z0
    have hi : i = one.length := by
      rcases Nat.lt_or_ge (i + 1) one.length with c | c
      · exfalso
        rw [List.getElem?_append_left (by (first | lia | omega))] at z0 z1
        rcases Nat.lt_or_ge (j + 1) (q * other.length) with d | d
        · have gap : ∀ {j : Nat} {o : Option Int}, o = (so ++ [n1, n2])[j]? → j < q * other.length → j % q ≠ 0 → o = some g := fun {j o} e hj hm => by
            rw [e, List.getElem?_append_left (by (first | lia | omega)), B.gap j hj hm]
          by_cases m0 : j % q = 0
          · have m1 : (j + 1) % q ≠ 0 := by
              rw [Nat.add_mod, m0, Nat.zero_add, Nat.mod_mod, Nat.mod_eq_of_lt (by (first | lia | omega) : 1 < q)]; (first | lia | omega)
            exact hg (List.mem_of_getElem? (gap z1 d m1))
          · exact hg (List.mem_of_getElem? (gap z0 (by (first | lia | omega)) m0))
        · rcases (by (first | lia | omega) : j + 1 = q * other.length ∨ j + 1 = q * other.length + 1) with w | w
          · rw [w, bt0] at z1; exact h1 (List.mem_of_getElem? z1)
          · rw [w, bt1] at z1; exact h2 (List.mem_of_getElem? z1)
      · rcases (by (first | lia | omega) : i + 1 = one.length ∨ i = one.length) with d | d
        · exfalso
          rw [d, at0] at z1
          have ej := isN1 z1.symm (by (first | lia | omega))
          rw [List.getElem?_append_left (by (first | lia | omega))] at z0
          have hm : j % q ≠ 0 := fun w => by
            have l1 := Nat.div_add_mod j q
            rw [w, Nat.add_zero] at l1
            have : (j + 1) % q = 0 := by rw [ej]; exact Nat.mul_mod_right _ _
            rw [Nat.add_mod, w, Nat.zero_add, Nat.mod_mod, Nat.mod_eq_of_lt (by (first | lia | omega) : 1 < q)] at this
            (first | lia | omega)
          rw [List.getElem?_append_left (by (first | lia | omega)), B.gap j (by (first | lia | omega)) hm] at z0
          exact hg (List.mem_of_getElem? z0)
        · exact d
    subst hi
    rw [at0] at z0
    have hj := isN1 z0.symm (by (first | lia | omega))
    subst hj
    obtain rfl : k = 2 := by (first | lia | omega)
    have eR : R = [] := hR.emptyA
    have sA := (Spr.plain one f).app [n1, n2]
    have sB := B.app [n1, n2]
    have eL := spread_blk (W := L) sA sB hfg hf hg (.inr hq) x (by rw [Nat.one_mul]; exact hL)
    rw [eR, eL]
    simp
end
end Mine

end
section
open PySem PySem.W PyProof.Rows PySem.Calls
set_option Elab.async false
set_option linter.unusedVariables false
set_option maxRecDepth 100000
set_option maxHeartbeats 4000000
namespace Mine
section
variable {prog : Program} {w : World} {A : Around} {h h' h₀ h₁ : Heap} {env : Env} {D : List Addr} {m : Str → Option Value} {l : List (Addr × Obj)}
noncomputable def pasB : List Stmt := bodyN (stN pwBody 8)
noncomputable abbrev pasN : List Str := [(Str.ofString "pairs"), (Str.ofString "begin"), (Str.ofString "places")]
noncomputable abbrev pasG : List Str := [(Str.ofString "range"), (Str.ofString "len")]
theorem fn_pass (P : Params) : FnOkC (frag P) at_law_pass fdOf_law_pass pasB :=
  ⟨⟨obOf_law_pass P, by kernel_rfl!, rfl⟩, by kernel_rfl!, by kernel_rfl!, by kernel_rfl!, by kernel_rfl!, by kernel_rfl!, by kernel_rfl!, by kernel_rfl!, by kernel_rfl!⟩
structure Pas (prog : Program) (w : World) (A : Around) (h₀ : Heap) (env : Env) (c1 c2 cI a1 a2 : Addr) (o1 o2 : Obj) (vs us : List Value) (one other : List Int) : Prop where
  e : EnvOk env
  hL : Loc env pasN
  kg : ∀ y ∈ pasG, env.kindOf y = some .globalImplicit
  hsc : env.scope = (callEnvC fdOf_law_pass 0 at_law_pass).scope
  hh : A.handled = none
  G : Gr (frag w.params) h₀
  C1 : Cel env (Str.ofString "one") c1
  C2 : Cel env (Str.ofString "other") c2
  CI : Cel env (Str.ofString "i") cI
  i1 : IsCel o1 (some (.ref a1))
  i2 : IsCel o2 (some (.ref a2))
  hl1 : h₀.IsList a1 vs.toArray
  hl2 : h₀.IsList a2 us.toArray
  hi1 : IntsAre vs one
  hi2 : IntsAre us other
  hz1 : one.length < 1000
  hz2 : other.length < 1000
theorem closureF3 {scope : Scope} {p x y z : Str} {cx cy cz : Addr} (hn : scope.names = [(Str.ofString ".0", .local), (p, .local), (x, .free), (y, .free), (z, .free)]) (Cx : Cel env x cx) (Cy : Cel env y cy) (Cz : Cel env z cz) : closureFor scope env = pure [(z, cz), (y, cy), (x, cx)] := by
  simp [closureFor, hn, cellOf, Cx.look, Cy.look, Cz.look]
section
variable {c1 c2 cI a1 a2 : Addr} {o1 o2 : Obj} {vs us : List Value} {one other : List Int}
theorem Pas.lst1 (X : Pas prog w A h₀ env c1 c2 cI a1 a2 o1 o2 vs us one other) (B : Sub [] h₀ h) : h.IsList a1 vs.toArray := X.hl1.at fun o eo => B _ _ (by first | walk_at "mem" | simp) eo
theorem Pas.lst2 (X : Pas prog w A h₀ env c1 c2 cI a1 a2 o1 o2 vs us one other) (B : Sub [] h₀ h) : h.IsList a2 us.toArray := X.hl2.at fun o eo => B _ _ (by first | walk_at "mem" | simp) eo
noncomputable def Firsts (other : List Int) (x : Option Int) (k n : Nat) (js : List Int) : Prop :=
  (js = [] ∧ ∀ j, k ≤ j → j < k + n → x ≠ other[j]?) ∨ ∃ (j : Nat) (r : List Int), js = (j : Int) :: r ∧ k ≤ j ∧ j < k + n ∧ x = other[j]? ∧ ∀ j', k ≤ j' → j' < j → x ≠ other[j']?
theorem Firsts.yes {x : Option Int} {k n : Nat} {js : List Int} (f : Firsts other x k n js) (hx : x = other[k + n]?) : Firsts other x k (n + 1) (js ++ [((k + n : Nat) : Int)]) := by
  rcases f with ⟨rfl, no⟩ | ⟨j, r, rfl, h1, h2, h3, h4⟩
  · exact .inr ⟨k + n, [], rfl, by (first | lia | omega), by (first | lia | omega), hx, fun j' g1 g2 => no j' g1 g2⟩
  · exact .inr ⟨j, _, rfl, h1, by (first | lia | omega), h3, h4⟩
theorem Firsts.no {x : Option Int} {k n : Nat} {js : List Int} (f : Firsts other x k n js) (hx : x ≠ other[k + n]?) : Firsts other x k (n + 1) js := by
  rcases f with ⟨rfl, no⟩ | ⟨j, r, rfl, h1, h2, h3, h4⟩
  · refine .inl ⟨rfl, fun j g1 g2 => ?_⟩
    rcases Nat.lt_or_ge j (k + n) with c | c
    · exact no j g1 c
    · obtain rfl : j = k + n := by (first | lia | omega)
      exact hx
  · exact .inr ⟨j, _, rfl, h1, by (first | lia | omega), h3, h4⟩
theorem t_places {i k : Nat} {ti tk : Tok} {oI : Obj} {Q : Flow → Heap → Prop} (X : Pas prog w A h₀ env c1 c2 cI a1 a2 o1 o2 vs us one other) (hu : A.units < cLine) (cb : m (Str.ofString "begin") = some (.int (k : Nat) tk)) (hI : IsCel oI (some (.int (i : Nat) ti))) (m1 : (c1, o1) ∈ l) (m2 : (c2, o2) ∈ l) (mI : (cI, oI) ∈ l) (H : S h₀ [] env.locals m l h) (hi : i < one.length) (hk : k ≤ other.length)
    (q : ∀ h' r o vj js, S h₀ [] env.locals (upd m (Str.ofString "places") (.ref r)) ((r, o) :: l) h' → IsLst o vj → IntsAre vj js → js.length ≤ other.length → Firsts other one[i]? k (other.length - k) js → Q .next h') : T prog w A (exec (stN (forBody (stN pasB 2)) 0) env) h Q := by
  have e := X.e
  have hL := X.hL
  have hl2 := X.hi2.length
  have hz1 := X.hz1
  have hz2 := X.hz2
  refine t_AssignComp (h₀ := h₀) (D := []) e (sw_comp e (hL.of (by first | walk_at "mem" | simp)) rfl (by kernel_rfl!)) (closureF3 (p := (Str.ofString "j")) rfl X.CI X.C1 X.C2) (by kernel_rfl!) (by kernel_rfl!) (by kernel_rfl!) (hL.of (by first | walk_at "mem" | simp)) ?_
  refine T.Call_Name ?_
  refine T.builtin (v := .type "range") e (X.G.sub H.base) (by kernel_rfl!) (by kernel_rfl!) ?_ (X.kg _ (by first | walk_at "mem" | simp)) (by decide +kernel) (by decide +kernel)
  refine T.callWith ?_ rfl
  walk_at "nm"
  refine T.Call_Name ?_
  refine T.builtin (v := .builtin "len") e (X.G.sub H.base) (by kernel_rfl!) (by kernel_rfl!) ?_ (X.kg _ (by first | walk_at "mem" | simp)) (by decide +kernel) (by decide +kernel)
  refine T.callWith ?_ rfl
  refine t_NameL e X.C2 H m2 X.i2 ?_ (by decide +kernel)
  refine ⟨Keeps.builtin, t_len (X.lst2 H.base) (by (first | lia | omega)) fun t4 => ?_⟩
  refine ⟨Keeps.type, ?_⟩
  refine t_iterRange (x := (Str.ofString "j")) (px := ⟨425, 24, 425, 25⟩) X.hh (by (first | lia | omega)) (by (first | lia | omega)) (by (first | lia | omega)) fun r h₁ s₁ it => ?_
  have H₁ := H.sub s₁
  refine ⟨_, _, _, _, H₁, it, fun env' acc oacc e' sc' cl' lacc => ?_⟩
  have kx : Loc env' [(Str.ofString "j")] := ⟨kinds_of sc' (env₀ := callEnvC fdOf_law_pass 0 at_law_pass) X.hsc (by kernel_rfl!)⟩
  have kf : ∀ y ∈ [(Str.ofString "i"), (Str.ofString "one"), (Str.ofString "other")], env'.kindOf y = some .cell := kinds_of sc' (env₀ := callEnvC fdOf_law_pass 0 at_law_pass) X.hsc (by kernel_rfl!)
  have lI : env'.cells.lookup (Str.ofString "i") = some cI := by rw [cl']; rfl
  have l1 : env'.cells.lookup (Str.ofString "one") = some c1 := by rw [cl']; rfl
  have l2 : env'.cells.lookup (Str.ofString "other") = some c2 := by rw [cl']; rfl
  have hcount : (((us.length : Nat) : Int) - ((k : Nat) : Int)).toNat = other.length - k := by (first | lia | omega)
  refine ⟨fun n m₁ l₁ => ∃ oa va js, l₁ = [(acc, oa)] ∧ IsLst oa va ∧ IntsAre va js ∧ js.length ≤ n ∧ Firsts other one[i]? k n js, ⟨oacc, [], [], rfl, lacc, .nil, by simp, .inl ⟨rfl, fun j g1 g2 => by (first | lia | omega)⟩⟩, ?_, ?_⟩
  · rintro n v m₁ l₁ I o h₂ hn ⟨tv, rfl⟩ ⟨oa, va, js, rfl, la, ia, hjl, hf⟩ H₂
    refine t_assignName e' H₂ (fun h₃ H₃ => ?_) (kx.of (by first | walk_at "mem" | simp))
    have hval := ia.length
    have g0 : ∀ {a o}, (a, o) ∈ l → h₃.get? a = some o := fun hm => H₃.base _ _ (by first | walk_at "mem" | simp) (H₁.get hm)
    have ep : ((k : Int) + (n : Int)) = ((k + n : Nat) : Int) := by (first | lia | omega)
    rw [ep] at H₃
    have hpl : k + n < other.length := by (first | lia | omega)
    refine t_tests1 (T.isTrue_Compare (t_SubListG ?_))
    refine t_NameC e' (kf _ (by first | walk_at "mem" | simp)) l2 (g0 m2) X.i2 ?_ (by decide +kernel)
    refine T.Name e' H₃ upd_here ?_ (kx.of (by first | walk_at "mem" | simp)) (by decide +kernel)
    obtain ⟨t6, hx6⟩ := X.hi2.get (k + n) (other[k + n]) (List.getElem?_eq_getElem hpl)
    refine ⟨a2, us, _, _, _, rfl, rfl, X.lst2 (H₁.base.trans H₃.base), by (first | lia | omega), by (first | lia | omega), hx6, ?_⟩
    refine t_SubListG ?_
    refine t_NameC e' (kf _ (by first | walk_at "mem" | simp)) l1 (g0 m1) X.i1 ?_ (by decide +kernel)
    refine t_NameC e' (kf _ (by first | walk_at "mem" | simp)) lI (g0 mI) hI ?_ (by decide +kernel)
    obtain ⟨t7, hx7⟩ := X.hi1.get i (one[i]) (List.getElem?_eq_getElem hi)
    refine ⟨a1, vs, _, _, _, rfl, rfl, X.lst1 (H₁.base.trans H₃.base), by (first | lia | omega), by (first | lia | omega), hx7, ?_⟩
    refine T.eqI (T.truthy_bool ?_)
    by_cases good : other[k + n] = one[i]
    · rw [if_pos (by simpa using good)]
      refine T.Name e' H₃ upd_here ?_ (kx.of (by first | walk_at "mem" | simp)) (by decide +kernel)
      refine t_append (H₃.get (by first | walk_at "mem" | simp)) la (by rw [sizeLine_eq]; (first | lia | omega)) fun h₈ o₈ s₈ g₈ l₈ => ?_
      refine ⟨_, [(acc, o₈)], ⟨o₈, _, _, rfl, l₈, intsAre_snoc ia, by simp; (first | lia | omega), hf.yes ?_⟩, H₃.upd (o' := o₈) 0 rfl s₈ g₈⟩
      rw [List.getElem?_eq_getElem hi, List.getElem?_eq_getElem hpl, good]
    · rw [if_neg (by simpa using good)]
      refine ⟨_, [(acc, oa)], ⟨oa, va, js, rfl, la, ia, by (first | lia | omega), hf.no ?_⟩, H₃⟩
      rw [List.getElem?_eq_getElem hi, List.getElem?_eq_getElem hpl]
      exact fun q => good (Option.some.inj q).symm
  · rintro m₁ l₂ h₂ ⟨oa, va, js, rfl, la, ia, hjl, hf⟩ X₂
    rw [hcount] at hf hjl
    exact q h₂ acc oa va js X₂ la ia (by (first | lia | omega)) hf
inductive PasInv (h₀ : Heap) (env : Env) (c1 c2 pa : Addr) (o1 o2 : Obj) (one other : List Int) (i : Nat) (m : Str → Option Value) (l : List (Addr × Obj)) : Prop
  | mk (oP : Obj) (vp : List Value) (fam : List (Addr × Obj)) (ps : List (Nat × Nat)) (k : Nat) (tk : Tok) (x1 : l = (c1, o1) :: (c2, o2) :: (pa, oP) :: fam) (x2 : IsLst oP vp) (x3 : PrsIn fam vp ps) (x4 : ps.length ≤ i) (x5 : k ≤ other.length) (x6 : m (Str.ofString "pairs") = some (.ref pa)) (x7 : m (Str.ofString "begin") = some (.int (k : Nat) tk)) (x8 : ∀ qs, Gd one other one.length other.length i k qs → Gd one other one.length other.length 0 0 (ps ++ qs))
theorem pass_turn {i : Nat} {ti : Tok} {pa I : Addr} {oI oIt : Obj} {lo : List (Addr × Obj)} (X : Pas prog w A h₀ env c1 c2 cI a1 a2 o1 o2 vs us one other) (hu : A.units < cLine) (hI : IsCel oI (some (.int (i : Nat) ti))) (hi : i < one.length) (inv : PasInv h₀ env c1 c2 pa o1 o2 one other i m lo) (H : S h₀ [] env.locals m ((cI, oI) :: (lo ++ [(I, oIt)])) h) {Q : Flow → Heap → Prop} (qn : ∀ h₃ m₂ l₂, PasInv h₀ env c1 c2 pa o1 o2 one other (i + 1) m₂ l₂ → S h₀ [] env.locals m₂ ((cI, oI) :: (l₂ ++ [(I, oIt)])) h₃ → Q .next h₃) :
    T prog w A (execs (forBody (stN pasB 2)) env) h Q := by
  obtain ⟨oP, vp, fam, ps, k, tk, rfl, lP, hP, hpl, hk, cp, cb, hG⟩ := inv
  have e := X.e
  have hL := X.hL
  have hz1 := X.hz1
  have hz2 := X.hz2
  refine T.execs_cons (t_places X hu cb hI (by first | walk_at "mem" | simp) (by first | walk_at "mem" | simp) (by first | walk_at "mem" | simp) H hi hk fun h₁ pl ol vj js H₁ lj ij hjl hf => ?_)
  refine T.execs_cons (T.If (T.isTrue_Compare ?_))
  walk_at "nm"
  refine t_List ⟨by decide, fun em h₂ o₂ s₂ n₂ g₂ l₂ => ?_⟩ rfl
  have H₂ := H₁.add s₂ n₂ g₂
  refine t_neInts (by (first | lia | omega)) (lj.isList (H₂.get (by first | walk_at "mem" | simp))) (l₂.isList g₂) ij .nil (T.truthy_bool ?_)
  rcases hf with ⟨rfl, no⟩ | ⟨j, r, rfl, g1, g2, g3, g4⟩
  · rw [if_neg (by first | walk_at "mem" | simp)]
    refine T.execs_nil (T.execs_nil (qn _ _ ((c1, o1) :: (c2, o2) :: (pa, oP) :: fam) ⟨oP, vp, fam, ps, k, tk, rfl, lP, hP, by (first | lia | omega), hk, by walk_at "look", by walk_at "look", fun qs g => hG qs (.miss hi (fun j h1 h2 => no j h1 (by (first | lia | omega))) g)⟩ (H₂.drop (.cons _ (.cons _ (List.Sublist.refl _))) (by first | walk_at "mem" | simp))))
  · rw [if_pos (by first | walk_at "mem" | simp)]
    have hjv := ij.length
    obtain ⟨tj, hx⟩ := ij.get 0 (j : Int) rfl
    refine T.execs_cons (T.Expr (T.Call_method ?_) e.inter)
    walk_at "nm"
    have gn : h₂.get? pa = some oP := H₂.get (by first | walk_at "mem" | simp)
    refine t_getMethodB gn lP.cls.1 lP.cls.2 PySem.F.plainAttrs_list PySem.F.slot_list_append PySem.F.type_list_append ?_
    refine T.callWith ?_ rfl
    refine t_Tuple ?_ rfl
    refine t_NameL e X.CI H₂ (by first | walk_at "mem" | simp) hI ?_ (by decide +kernel)
    refine t_SubListG ?_
    walk_at "nm"
    refine T.cInt fun t5 => ⟨pl, vj, _, _, _, rfl, rfl, lj.isList (H₂.get (by first | walk_at "mem" | simp)), by (first | lia | omega), by (first | lia | omega), hx, ?_⟩
    refine ⟨by show 2 ≤ sizeLine; decide, fun tA h₃ ot s₃ n₃ g₃ l₃ => ⟨Keeps.builtin, ?_⟩⟩
    have H₃ := H₂.add s₃ n₃ g₃
    have gn₃ : h₃.get? pa = some oP := H₃.get (by first | walk_at "mem" | simp)
    have hvp := hP.length
    refine t_append gn₃ lP (by rw [sizeLine_eq]; (first | lia | omega)) fun h₄ oP' s₄ g₄ l₄ => ⟨(fun b q => by cases q), ?_⟩
    have H₄ := H₃.upd (o' := oP') 6 (d := pa) (o := oP) (by first | walk_at "mem" | simp) s₄ g₄
    replace H₄ : S h₀ [] env.locals _ ((tA, ot) :: (em, o₂) :: (pl, ol) :: (cI, oI) :: (c1, o1) :: (c2, o2) :: (pa, oP') :: (fam ++ [(I, oIt)])) h₄ := H₄
    refine T.execs_cons (T.Assign_Name (T.BinOp (t_SubListG ?_)))
    walk_at "nm"
    refine T.cInt fun t6 => ⟨pl, vj, _, _, _, rfl, rfl, lj.isList (H₄.get (by first | walk_at "mem" | simp)), by (first | lia | omega), by (first | lia | omega), hx, ?_⟩
    refine T.cInt fun t7 => T.add fun t8 => ?_
    rw [show (j : Int) + 1 = ((j + 1 : Nat) : Int) by (first | lia | omega)]
    refine T.storeName e H₄ (fun h₅ H₅ => ?_) (hL.of (by first | walk_at "mem" | simp))
    have H₆ : S h₀ [] env.locals _ ((cI, oI) :: ((c1, o1) :: (c2, o2) :: (pa, oP') :: (tA, ot) :: fam ++ [(I, oIt)])) h₅ := (H₅.drop (l' := (tA, ot) :: (cI, oI) :: (c1, o1) :: (c2, o2) :: (pa, oP') :: (fam ++ [(I, oIt)])) (.cons_cons _ (.cons _ (.cons _ (List.Sublist.refl _)))) (by first | walk_at "mem" | simp)).perm
      ((List.Perm.swap _ _ _).trans (.cons _ ((List.Perm.swap _ _ _).trans (.cons _ ((List.Perm.swap _ _ _).trans (.cons _ (List.Perm.swap _ _ _)))))))
    refine T.execs_nil (T.execs_nil (qn _ _ ((c1, o1) :: (c2, o2) :: (pa, oP') :: (tA, ot) :: fam) ⟨oP', _, (tA, ot) :: fam, ps ++ [(i, j)], j + 1, t8, rfl, l₄, (hP.mono fun p hp => .tail _ hp).snoc (.head _) l₃, by simp; (first | lia | omega), by (first | lia | omega), by walk_at "look", by walk_at "look", fun qs g => ?_⟩ H₆))
    have := hG ((i, j) :: qs) (.hit hi g1 (by (first | lia | omega)) g3 g4 g)
    simpa using this
end
theorem pass {a1 a2 : Addr} {vs us : List Value} {one other : List Int} {Q : Value → Heap → Prop} (G : Gr (frag w.params) h) (hh : A.handled = none) (hroom : A.depth + 2 < recursionLimit) (hu : A.units + 10 < cLine) (hl1 : h.IsList a1 vs.toArray) (hi1 : IntsAre vs one) (hz1 : one.length < 1000) (hl2 : h.IsList a2 us.toArray) (hi2 : IntsAre us other) (hz2 : other.length < 1000)
    (q : ∀ h' r o vs' fam ps, Ext h ((r, o) :: fam) h' → IsLst o vs' → PrsIn fam vs' ps → Gd one other one.length other.length 0 0 ps → Q (.ref r) h') :
    TC prog w A (.call (.ref at_law_pass) ⟨[.ref a1, .ref a2], []⟩) h Q := by
  have hvl1 := hi1.length
  refine TC.defC (binds := [((Str.ofString "one"), .ref a1), ((Str.ofString "other"), .ref a2)]) (mL := fun _ => none) (cM := upd (upd (fun _ => none) (Str.ofString "one") (.ref a1)) (Str.ofString "other") (.ref a2)) (cs := fun L => [((Str.ofString "i"), L + 3), ((Str.ofString "other"), L + 2), ((Str.ofString "one"), L + 1)]) (fn_pass w.params) G (by (first | lia | omega)) (by kernel_rfl!) (fun L => by rfl) (fun L => by rfl) ?_ ?_ (fun L => by
    have a : List.lookup (Str.ofString "i") [((Str.ofString "i"), L + 3), ((Str.ofString "other"), L + 2), ((Str.ofString "one"), L + 1)] = some (L + 3) := rfl
    have b : List.lookup (Str.ofString "other") [((Str.ofString "i"), L + 3), ((Str.ofString "other"), L + 2), ((Str.ofString "one"), L + 1)] = some (L + 2) := rfl
    have c : List.lookup (Str.ofString "one") [((Str.ofString "i"), L + 3), ((Str.ofString "other"), L + 2), ((Str.ofString "one"), L + 1)] = some (L + 1) := rfl
    simp only [List.all_cons, List.all_nil, Bool.and_true, a, b, c, decide_true]) ?_
  · intro L
    have k2 : (callEnvC fdOf_law_pass L at_law_pass).kindOf (Str.ofString "one") = some .cell := by kernel_rfl!
    have k3 : (callEnvC fdOf_law_pass L at_law_pass).kindOf (Str.ofString "other") = some .cell := by kernel_rfl!
    simp only [bindL, k2, k3]
    rw [if_neg (by first | walk_at "mem" | simp), if_neg (by first | walk_at "mem" | simp)]
  · intro L
    have k2 : (callEnvC fdOf_law_pass L at_law_pass).kindOf (Str.ofString "one") = some .cell := by kernel_rfl!
    have k3 : (callEnvC fdOf_law_pass L at_law_pass).kindOf (Str.ofString "other") = some .cell := by kernel_rfl!
    simp only [bindC, k2, k3]
    rw [if_neg (by first | walk_at "mem" | simp), if_neg (by first | walk_at "mem" | simp)]
    funext y; simp only [upd]
  intro h₁ L oc hoc H
  have e := (fn_pass w.params).ok L
  have hL : Loc (callEnvC fdOf_law_pass L at_law_pass) pasN := Loc.mk' (by kernel_rfl!)
  have kg : ∀ y ∈ pasG, (callEnvC fdOf_law_pass L at_law_pass).kindOf y = some .globalImplicit := by
    have : (pasG.all fun y => decide ((callEnvC fdOf_law_pass L at_law_pass).kindOf y = some .globalImplicit)) = true := by kernel_rfl!
    exact fun y hy => of_decide_eq_true (List.all_eq_true.mp this y hy)
  have C1 : Cel (callEnvC fdOf_law_pass L at_law_pass) (Str.ofString "one") (L + 1) := ⟨by kernel_rfl!, by rfl⟩
  have C2 : Cel (callEnvC fdOf_law_pass L at_law_pass) (Str.ofString "other") (L + 2) := ⟨by kernel_rfl!, by rfl⟩
  have CI : Cel (callEnvC fdOf_law_pass L at_law_pass) (Str.ofString "i") (L + 3) := ⟨by kernel_rfl!, by rfl⟩
  have i1 : IsCel (oc (Str.ofString "one")) (some (.ref a1)) := by
    have := hoc ((Str.ofString "one"), L + 1) (by first | walk_at "mem" | simp)
    have e1 : (upd (upd (fun _ => none) (Str.ofString "one") (.ref a1)) (Str.ofString "other") (.ref a2)) (Str.ofString "one") = some (.ref a1) := by walk_at "look"
    rw [e1] at this; exact this
  have i2 : IsCel (oc (Str.ofString "other")) (some (.ref a2)) := by
    have := hoc ((Str.ofString "other"), L + 2) (by first | walk_at "mem" | simp)
    have e1 : (upd (upd (fun _ => none) (Str.ofString "one") (.ref a1)) (Str.ofString "other") (.ref a2)) (Str.ofString "other") = some (.ref a2) := by walk_at "look"
    rw [e1] at this; exact this
  have iI : IsCel (oc (Str.ofString "i")) none := by
    have := hoc ((Str.ofString "i"), L + 3) (by first | walk_at "mem" | simp)
    have e1 : (upd (upd (fun _ => none) (Str.ofString "one") (.ref a1)) (Str.ofString "other") (.ref a2)) (Str.ofString "i") = none := by simp only [upd]; rw [if_neg (by decide +kernel), if_neg (by decide +kernel)]
    rw [e1] at this; exact this
  replace H : S h [] L (fun _ => none) [(L + 3, oc (Str.ofString "i")), (L + 2, oc (Str.ofString "other")), (L + 1, oc (Str.ofString "one"))] h₁ := H
  have hsc : (callEnvC fdOf_law_pass L at_law_pass).scope = (callEnvC fdOf_law_pass 0 at_law_pass).scope := rfl
  generalize hc1 : L + 1 = c1 at *
  generalize hc2 : L + 2 = c2 at *
  generalize hcI : L + 3 = cI at *
  generalize oc (Str.ofString "one") = o1 at *
  generalize oc (Str.ofString "other") = o2 at *
  generalize oc (Str.ofString "i") = oI at *
  clear hoc
  generalize henv : callEnvC fdOf_law_pass L at_law_pass = env at *
  have hLo : L = env.locals := by rw [← henv]; rfl
  subst hLo
  clear henv
  have X : Pas prog w (A.deeper env) h env c1 c2 cI a1 a2 o1 o2 vs us one other := ⟨e, hL, kg, hsc, hh, G, C1, C2, CI, i1, i2, hl1, hl2, hi1, hi2, hz1, hz2⟩
  have hu' : (A.deeper env).units < cLine := by show A.units + 3 < _; (first | lia | omega)
  generalize A.deeper env = A' at *
  refine T.execs_cons (T.Assign_Name (t_List ?_ rfl))
  refine ⟨by decide, fun pa h₂ oP s₂ n₂ g₂ l₂ => ?_⟩
  have H₂ := H.add s₂ n₂ g₂
  refine T.storeName e H₂ (fun h₃ H₃ => ?_) (hL.of (by first | walk_at "mem" | simp))
  refine T.execs_cons (T.Assign_Name (T.cInt fun t1 => ?_))
  refine T.storeName e H₃ (fun h₄ H₄ => ?_) (hL.of (by first | walk_at "mem" | simp))
  have H₅ : S h [] env.locals _ ((cI, oI) :: [(c1, o1), (c2, o2), (pa, oP)]) h₄ := H₄.perm (by
    refine (List.Perm.swap _ _ _).trans (.cons _ ?_)
    exact (List.reverse_perm [(c1, o1), (c2, o2), (pa, oP)]))
  refine T.execs_cons (T.For ?_)
  refine T.Call_Name ?_
  refine T.builtin (v := .type "range") e (G.sub H₅.base) (by kernel_rfl!) (by kernel_rfl!) ?_ (kg _ (by first | walk_at "mem" | simp)) (by decide +kernel) (by decide +kernel)
  refine T.callWith (T.Call_Name ?_) rfl
  refine T.builtin (v := .builtin "len") e (G.sub H₅.base) (by kernel_rfl!) (by kernel_rfl!) ?_ (kg _ (by first | walk_at "mem" | simp)) (by decide +kernel) (by decide +kernel)
  refine T.callWith ?_ rfl
  refine t_NameL e C1 H₅ (by first | walk_at "mem" | simp) i1 ?_ (by decide +kernel)
  refine ⟨Keeps.builtin, t_len (X.lst1 H₅.base) (by (first | lia | omega)) fun t4 => ?_⟩
  refine ⟨Keeps.type, ?_⟩
  refine tf_range1C e X.hh CI iI H₅ (by (first | lia | omega)) (PasInv h env c1 c2 pa o1 o2 one other) (by first | walk_at "mem" | simp) ⟨oP, [], [], [], 0, t1, rfl, l₂, .nil, by simp, by (first | lia | omega), by walk_at "look", by exact upd_here, fun qs g => g⟩ ?_ ?_
  · intro i t m₁ l₁ I o oc₁ h₆ hi inv hoc₁ H₆
    exact pass_turn X hu' hoc₁ (by (first | lia | omega)) inv H₆ fun h₇ m₂ l₂ inv' H₇ => ⟨m₂, l₂, oc₁, _, inv', hoc₁, H₇⟩
  · rintro m₁ l₁ oc₁ v h₆ ⟨oP', vp, fam, ps, k, tk, rfl, lP, hP, hpl, hk, cp, cb, hG⟩ hoc₁ H₆
    rw [hvl1] at hG
    refine T.execs_cons (T.Return ?_)
    walk_at "nm"
    have H₇ : S h [] env.locals _ ((pa, oP') :: fam) h₆ := H₆.drop (.cons _ (.cons _ (.cons _ (List.Sublist.refl _)))) (by first | walk_at "mem" | simp)
    refine q h₆ pa oP' vp fam ps (H₇.toExt (Heap.SameBut.refl _ _)) lP hP ?_
    have := hG [] .done
    rwa [List.append_nil] at this
end
end Mine

end
section
open PySem PySem.W PyProof.Rows PySem.Calls
set_option Elab.async false
set_option linter.unusedVariables false
set_option maxRecDepth 100000
set_option maxHeartbeats 4000000
namespace Mine
section
variable {prog : Program} {w : World} {A : Around} {h h' h₀ h₁ : Heap} {env : Env} {D : List Addr} {m : Str → Option Value} {l : List (Addr × Obj)}
theorem T.mul {a b : Int} {t u : Tok} {Q : Value → Heap → Prop} (hb : Builtin.Int.intBits b ≤ 64) (q : ∀ t, Q (.int (a * b) t) h) : T prog w A (binaryOp .Mult (.int a t) (.int b u)) h Q := fun s es => by subst es; exact PyProof.Rows.mul_int ⟨_, _, rfl, q _⟩ (IntMulOk.of_right hb)
theorem bits_small {p : Nat} (hp : p ≤ 8) : Builtin.Int.intBits (p : Int) ≤ 64 := by
  have : p = 0 ∨ p = 1 ∨ p = 2 ∨ p = 3 ∨ p = 4 ∨ p = 5 ∨ p = 6 ∨ p = 7 ∨ p = 8 := by (first | lia | omega)
  rcases this with rfl | rfl | rfl | rfl | rfl | rfl | rfl | rfl | rfl <;> decide +kernel
theorem t_compId {x y z : Str} {iter : PySem.Expr} {pi pj ps qi qj qs pt qt pos : Pos} {k k' : Nat} {scope : Scope} {env₀ : Env} {Q : Value → Heap → Prop} (e : EnvOk env) (hh : A.handled = none) (hxy : x ≠ y) (hxz : x ≠ z) (hyz : y ≠ z) (dx : (x == ("__debug__" : Str)) = false) (dy : (y == ("__debug__" : Str)) = false) (dz : (z == ("__debug__" : Str)) = false) (hsc : env.scope = env₀.scope) (hloc : ([x, y, z].all fun y => decide ((relabel scope env₀).names.lookup y = some NameKind.local)) = true)
    (hfree : ∀ x ∈ scope.names, x.2 ≠ .free) (hcell : (scope.names.all fun y => y.2 != .cell) = true) (hkind : scope.kind = .function)
    (hnames : (scope.names.all fun y => y.2 != .local || decide (scope.names.lookup y.1 = some .local)) = true)
    (X : T prog w A (eval iter env) h fun xv h₁ => ∃ va vs bs, xv = .ref va ∧ h₁.IsList va (List.toArray vs) ∧ MtsAre h₁ vs bs ∧ Gr (frag w.params) h₁ ∧ bs.length ≤ 10000 ∧
      ∀ acc oa va fam h', Ext h₁ ((acc, oa) :: fam) h' → IsLst oa va → TupsIn fam va bs → Q (.ref acc) h')
    (hs : ∀ x, foldedSetIterable iter env x = pure x := by intro _; rfl) :
    T prog w A (eval (.ListComp (.Tuple [.Name x qi, .Name y qj, .Name z qs] k' qt) [⟨.Tuple [.Name x pi, .Name y pj, .Name z ps] k pt, iter, [], 0⟩] scope pos) env) h Q := by
  refine t_ListComp e (closureFor_none hfree) hcell hkind hnames (X.mono fun xv h₁ z => ?_) hs
  obtain ⟨va, vs, bs, rfl, hl, mt, G, hz, q⟩ := z
  have hlen := mt.length
  have refs : ∀ v ∈ vs, ∃ a, v = .ref a := fun v hv => by
    obtain ⟨n, hn, rfl⟩ := List.mem_iff_getElem.mp hv
    obtain ⟨y, da, t1, t2, t3, e1, _⟩ := mt.get hn
    rw [List.getD_eq_getElem?_getD, List.getElem?_eq_getElem hn] at e1
    exact ⟨y, e1⟩
  refine ⟨_, _, t_iterListT hh hl refs, fun env' acc oacc e' sc' cl' lacc => ?_⟩
  have kx : Loc env' [x, y, z] := ⟨kinds_of sc' hsc hloc⟩
  refine ⟨fun n m₁ l₁ => ∃ oa va fam, l₁ = (acc, oa) :: fam ∧ IsLst oa va ∧ TupsIn fam va (bs.take n), ⟨oacc, [], [], rfl, lacc, .nil⟩, ?_, ?_⟩
  · rintro n v m₁ l₁ I o h₂ hn hvn ⟨oa, va, fam, rfl, la, ta⟩ H₂
    have hnv : n < vs.length := hn
    obtain ⟨yy, da, t1, t2, t3, e1, e3⟩ := mt.get hnv
    rw [List.getD_eq_getElem?_getD, hvn] at e1
    obtain rfl : v = .ref yy := e1
    have hb : n < bs.length := by (first | lia | omega)
    have eb : bs[n]? = some (bs.getD n (0, 0, 0)) := by rw [List.getD_eq_getElem?_getD, List.getElem?_eq_getElem hb]; rfl
    generalize bs.getD n (0, 0, 0) = b at e3 eb
    obtain ⟨i, j, k⟩ := b
    refine t_assignMtN (names := [x, y, z]) e' hh H₂ (G.sub H₂.base).k (H₂.base _ _ (by first | walk_at "mem" | simp) e3) rfl (fun y hy => kx.of hy) fun h₃ H₃ => ?_
    simp only [updAll] at H₃
    refine t_tests0 ?_
    rw [if_pos rfl]
    refine t_Tuple ?_ rfl
    refine T.Name e' H₃ (upd_next hxz (upd_next hxy upd_here)) ?_ (kx.of (by first | walk_at "mem" | simp)) dx
    refine T.Name e' H₃ (upd_next hyz upd_here) ?_ (kx.of (by first | walk_at "mem" | simp)) dy
    refine T.Name e' H₃ upd_here ?_ (kx.of (by first | walk_at "mem" | simp)) dz
    refine ⟨by show 3 ≤ sizeLine; decide, fun t h₄ ot s₄ n₄ g₄ l₄ => ?_⟩
    have H₄ := H₃.add s₄ n₄ g₄
    have hvl := ta.length
    have hle : va.length ≤ 10000 := by rw [hvl]; simp; (first | lia | omega)
    refine t_append (H₄.get (by first | walk_at "mem" | simp)) la (by rw [sizeLine_eq]; (first | lia | omega)) fun h₅ o₅ s₅ g₅ l₅ => ?_
    have H₅ := (H₄.upd (o' := o₅) 1 rfl s₅ g₅).perm (l' := ((acc, o₅) :: (t, ot) :: fam) ++ [(I, o)]) (List.Perm.swap _ _ _)
    refine ⟨_, (acc, o₅) :: (t, ot) :: fam, ⟨o₅, _, (t, ot) :: fam, rfl, l₅, ?_⟩, H₅⟩
    have : bs.take (n + 1) = bs.take n ++ [(i, j, k)] := by rw [List.take_add_one, eb]; rfl
    rw [this]
    exact (ta.mono fun p hp => .tail _ hp).snoc (.head _) l₄
  · rintro m₁ l₂ h₂ ⟨oa, va, fam, rfl, la, ta⟩ X₂
    rw [hlen, List.take_length] at ta
    exact q acc oa va fam h₂ X₂ la ta
theorem t_comp2P {elt iter : PySem.Expr} {pi pj pt pos : Pos} {k : Nat} {scope : Scope} {f : Nat × Nat → Nat × Nat × Nat} {env₀ : Env} {cl : List (Str × Addr)} {Q : Value → Heap → Prop} (e : EnvOk env) (hh : A.handled = none) (hsc : env.scope = env₀.scope) (hloc : ([(Str.ofString "i"), (Str.ofString "j")].all fun y => decide ((relabel scope env₀).names.lookup y = some NameKind.local)) = true)
    (hclos : closureFor scope env = pure cl) (hcell : (scope.names.all fun y => y.2 != .cell) = true) (hkind : scope.kind = .function)
    (hnames : (scope.names.all fun y => y.2 != .local || decide (scope.names.lookup y.1 = some .local)) = true)
    (X : T prog w A (eval iter env) h fun xv h₁ => ∃ va vs fam ps, xv = .ref va ∧ h₁.IsList va (List.toArray vs) ∧ PrsIn fam vs ps ∧ (∀ p ∈ fam, h₁.get? p.1 = some p.2) ∧ ps.length ≤ 10000 ∧
      (∀ (env' : Env) (m : Str → Option Value) (l : List (Addr × Obj)) (h₂ : Heap) (i j : Nat) (t1 t2 : Tok) (R : Value → Heap → Prop), EnvOk env' → Loc env' [(Str.ofString "i"), (Str.ofString "j")] → env'.scope = relabel scope env → env'.cells = cl → S h₁ [] env'.locals m l h₂ → m (Str.ofString "i") = some (.int (i : Nat) t1) → m (Str.ofString "j") = some (.int (j : Nat) t2) →
        (∀ t h' o u1 u2 u3, Sub [] h₂ h' → h₂.get? t = none → h'.get? t = some o → IsTupO o [.int ((f (i, j)).1 : Nat) u1, .int ((f (i, j)).2.1 : Nat) u2, .int ((f (i, j)).2.2 : Nat) u3] → R (.ref t) h') → T prog w A (eval elt env') h₂ R) ∧
      ∀ acc oa va fam h', Ext h₁ ((acc, oa) :: fam) h' → IsLst oa va → TupsIn fam va (ps.map f) → Q (.ref acc) h')
    (hs : ∀ x, foldedSetIterable iter env x = pure x := by intro _; rfl) :
    T prog w A (eval (.ListComp elt [⟨.Tuple [.Name (Str.ofString "i") pi, .Name (Str.ofString "j") pj] k pt, iter, [], 0⟩] scope pos) env) h Q := by
  refine t_ListComp e hclos hcell hkind hnames (X.mono fun xv h₁ z => ?_) hs
  obtain ⟨va, vs, fam₀, ps, rfl, hl, hp, hf, hz, hE, q⟩ := z
  have hlen := hp.length
  refine ⟨_, _, t_iterListT hh hl hp.refs, fun env' acc oacc e' sc' cl' lacc => ?_⟩
  have kx : Loc env' [(Str.ofString "i"), (Str.ofString "j")] := ⟨kinds_of sc' hsc hloc⟩
  refine ⟨fun n m₁ l₁ => ∃ oa va fam, l₁ = (acc, oa) :: fam ∧ IsLst oa va ∧ TupsIn fam va ((ps.take n).map f), ⟨oacc, [], [], rfl, lacc, .nil⟩, ?_, ?_⟩
  · rintro n v m₁ l₁ I o h₂ hn hvn ⟨oa, va, fam, rfl, la, ta⟩ H₂
    obtain ⟨t, ot, i, j, t1, t2, e1, e2, e3, e4⟩ := hp.get hn
    rw [e1] at hvn
    obtain rfl := Option.some.inj hvn
    refine t_assignTupN (names := [(Str.ofString "i"), (Str.ofString "j")]) e' hh H₂ (H₂.base _ _ (by first | walk_at "mem" | simp) (hf _ e3)) e4 rfl (fun y hy => kx.of hy) fun h₃ H₃ => ?_
    simp only [updAll] at H₃
    refine t_tests0 ?_
    rw [if_pos rfl]
    refine hE env' _ _ h₃ i j t1 t2 _ e' kx sc' cl' H₃ (by walk_at "look") upd_here fun tt h₄ o₄ u1 u2 u3 s₄ n₄ g₄ l₄ => ?_
    have H₄ := H₃.add s₄ n₄ g₄
    have hvl := ta.length
    have hle : va.length ≤ 10000 := by rw [hvl]; simp; (first | lia | omega)
    refine t_append (H₄.get (by first | walk_at "mem" | simp)) la (by rw [sizeLine_eq]; (first | lia | omega)) fun h₅ o₅ s₅ g₅ l₅ => ?_
    have H₅ := (H₄.upd (o' := o₅) 1 rfl s₅ g₅).perm (l' := ((acc, o₅) :: (tt, o₄) :: fam) ++ [(I, o)]) (List.Perm.swap _ _ _)
    refine ⟨_, (acc, o₅) :: (tt, o₄) :: fam, ⟨o₅, _, (tt, o₄) :: fam, rfl, l₅, ?_⟩, H₅⟩
    have : ps.take (n + 1) = ps.take n ++ [(i, j)] := by rw [List.take_add_one, e2]; rfl
    rw [this, List.map_append]
    exact (ta.mono fun p hp => .tail _ hp).snoc (.head _) l₄
  · rintro m₁ l₂ h₂ ⟨oa, va, fam, rfl, la, ta⟩ X₂
    rw [hlen, List.take_length] at ta
    exact q acc oa va fam h₂ X₂ la ta
theorem sub_in {hb : Heap} {dx : Addr} (B : Sub [] hb h) (hn : hb.get? dx = none) (s : Sub [dx] h h') : Sub [] hb h' := fun b o _ eb => s b o (fun q => by
  obtain rfl : b = dx := by simpa using q
  rw [hn] at eb; cases eb) (B b o (by first | walk_at "mem" | simp) eb)
theorem S.opening {L dx : Addr} {od : Obj} (H : S h₀ [] L m l h) (hd : h₀.get? dx = some od) : S h₀ [dx] L m ((dx, od) :: l) h where
  base := H.base.nil
  ns := H.ns
  led := fun p hp => by
    rcases List.mem_cons.mp hp with rfl | hp
    · exact H.old hd (by first | walk_at "mem" | simp)
    · exact H.led p hp
  own := fun p hp => by
    rcases List.mem_cons.mp hp with rfl | hp
    · exact .inl (by first | walk_at "mem" | simp)
    · exact .inr ((H.own p hp).resolve_left (by first | walk_at "mem" | simp))
  nodup := by
    rw [List.map_cons, List.nodup_cons]
    refine ⟨fun q => ?_, H.nodup⟩
    obtain ⟨p, hp, e⟩ := List.mem_map.mp q
    have := (H.own p hp).resolve_left (by first | walk_at "mem" | simp)
    rw [e, hd] at this; cases this
  offL := by
    rw [List.map_cons, List.mem_cons]
    rintro (q | q)
    · have := H.newL
      rw [q, hd] at this; cases this
    · exact H.offL q
  newL := H.newL
  dl := fun d hd => by simp at hd; simp [hd]
end
end Mine

end
section
open PySem PySem.W PyProof.Rows PySem.Calls
set_option Elab.async false
set_option linter.unusedVariables false
set_option maxRecDepth 100000
set_option maxHeartbeats 4000000
namespace Mine
section
variable {prog : Program} {w : World} {A : Around} {h h' h₀ h₁ : Heap} {env : Env} {D : List Addr} {m : Str → Option Value} {l : List (Addr × Obj)}
noncomputable def fndB : List Stmt := bodyN (stN pwBody 9)
noncomputable abbrev fndN : List Str := [(Str.ofString "matcher"), (Str.ofString "one"), (Str.ofString "other"), (Str.ofString "due")]
noncomputable abbrev fndG : List Str := [(Str.ofString "_law_pass"), (Str.ofString "len")]
theorem fn_found (P : Params) : FnOkC (frag P) at_law_found fdOf_law_found fndB :=
  ⟨⟨obOf_law_found P, by kernel_rfl!, rfl⟩, by kernel_rfl!, by kernel_rfl!, by kernel_rfl!, by kernel_rfl!, by kernel_rfl!, by kernel_rfl!, by kernel_rfl!, by kernel_rfl!⟩
noncomputable def times (p q : Nat) (x : Nat × Nat) : Nat × Nat × Nat := (x.1 * p, x.2 * q, 1)
theorem found {hb : Heap} {x dx a1 a2 : Addr} {od : Obj} {am : Str → Option Value} {ns ms one other : List Int} {vs us : List Value} {p q : Nat} {tp tq : Tok} {Q : Value → Heap → Prop} (G : Gr (frag w.params) hb) (B : Sub [] hb h) (hn : hb.get? dx = none) (hh : A.handled = none) (hroom : A.depth + 20 < recursionLimit) (hu : A.units + 40 < cLine)
    (MM : Mat prog w h x dx od am ns ms) (ok : AmOk am) (hmb : am (Str.ofString "matching_blocks") = some .none) (hl1 : h.IsList a1 vs.toArray) (hi1 : IntsAre vs one) (hz1 : one.length < 63) (hl2 : h.IsList a2 us.toArray) (hi2 : IntsAre us other) (hz2 : other.length < 63)
    (hp : p ≤ 8) (hq : q ≤ 8) (hns : ns.length = one.length * p) (hms : ms.length = other.length * q)
    (hB : ∀ ps W, Gd one other one.length other.length 0 0 ps → Blk ns ms 0 ns.length 0 ms.length W → W = ps.map (times p q))
    (qq : ∀ h' od' va, Sub [dx] h h' → h'.get? dx = some od' → IsAttrs attrN od' (upd am (Str.ofString "matching_blocks") (.ref va)) → Q (.bool true) h') :
    TC prog w A (.call (.ref at_law_found) ⟨[.ref x, .ref a1, .ref a2, .int (p : Nat) tp, .int (q : Nat) tq], []⟩) h Q := by
  have hvl1 := hi1.length
  have hvl2 := hi2.length
  have na1 := list_ne hl1 MM.dict MM.attrs
  have na2 := list_ne hl2 MM.dict MM.attrs
  refine TC.defC (binds := [((Str.ofString "matcher"), .ref x), ((Str.ofString "one"), .ref a1), ((Str.ofString "other"), .ref a2), ((Str.ofString "p"), .int (p : Nat) tp), ((Str.ofString "q"), .int (q : Nat) tq)]) (mL := upd (upd (upd (fun _ => none) (Str.ofString "matcher") (.ref x)) (Str.ofString "one") (.ref a1)) (Str.ofString "other") (.ref a2)) (cM := upd (upd (fun _ => none) (Str.ofString "p") (.int (p : Nat) tp)) (Str.ofString "q") (.int (q : Nat) tq)) (cs := fun L => [((Str.ofString "q"), L + 2), ((Str.ofString "p"), L + 1)]) (fn_found w.params) (G.sub B) (by (first | lia | omega)) (by kernel_rfl!) (fun L => by rfl) (fun L => by rfl) ?_ ?_ (fun L => by
    have a : List.lookup (Str.ofString "q") [((Str.ofString "q"), L + 2), ((Str.ofString "p"), L + 1)] = some (L + 2) := rfl
    have b : List.lookup (Str.ofString "p") [((Str.ofString "q"), L + 2), ((Str.ofString "p"), L + 1)] = some (L + 1) := rfl
    simp only [List.all_cons, List.all_nil, Bool.and_true, a, b, decide_true]) ?_
  · intro L
    have k1 : (callEnvC fdOf_law_found L at_law_found).kindOf (Str.ofString "matcher") = some .local := by kernel_rfl!
    have k2 : (callEnvC fdOf_law_found L at_law_found).kindOf (Str.ofString "one") = some .local := by kernel_rfl!
    have k3 : (callEnvC fdOf_law_found L at_law_found).kindOf (Str.ofString "other") = some .local := by kernel_rfl!
    have k4 : (callEnvC fdOf_law_found L at_law_found).kindOf (Str.ofString "p") = some .cell := by kernel_rfl!
    have k5 : (callEnvC fdOf_law_found L at_law_found).kindOf (Str.ofString "q") = some .cell := by kernel_rfl!
    simp only [bindL, k1, k2, k3, k4, k5, if_true]
    rw [if_neg (by first | walk_at "mem" | simp), if_neg (by first | walk_at "mem" | simp)]
    funext y; simp only [upd]
  · intro L
    have k1 : (callEnvC fdOf_law_found L at_law_found).kindOf (Str.ofString "matcher") = some .local := by kernel_rfl!
    have k2 : (callEnvC fdOf_law_found L at_law_found).kindOf (Str.ofString "one") = some .local := by kernel_rfl!
    have k3 : (callEnvC fdOf_law_found L at_law_found).kindOf (Str.ofString "other") = some .local := by kernel_rfl!
    have k4 : (callEnvC fdOf_law_found L at_law_found).kindOf (Str.ofString "p") = some .cell := by kernel_rfl!
    have k5 : (callEnvC fdOf_law_found L at_law_found).kindOf (Str.ofString "q") = some .cell := by kernel_rfl!
    simp only [bindC, k1, k2, k3, k4, k5, if_true]
    rw [if_neg (by first | walk_at "mem" | simp), if_neg (by first | walk_at "mem" | simp)]
    funext y; simp only [upd]
  intro h₁ L oc hoc H
  have e := (fn_found w.params).ok L
  have hL : Loc (callEnvC fdOf_law_found L at_law_found) fndN := Loc.mk' (by kernel_rfl!)
  have kg : ∀ y ∈ fndG, (callEnvC fdOf_law_found L at_law_found).kindOf y = some .globalImplicit := by
    have : (fndG.all fun y => decide ((callEnvC fdOf_law_found L at_law_found).kindOf y = some .globalImplicit)) = true := by kernel_rfl!
    exact fun y hy => of_decide_eq_true (List.all_eq_true.mp this y hy)
  have CP : Cel (callEnvC fdOf_law_found L at_law_found) (Str.ofString "p") (L + 1) := ⟨by kernel_rfl!, by rfl⟩
  have CQ : Cel (callEnvC fdOf_law_found L at_law_found) (Str.ofString "q") (L + 2) := ⟨by kernel_rfl!, by rfl⟩
  have iP : IsCel (oc (Str.ofString "p")) (some (.int (p : Nat) tp)) := by
    have := hoc ((Str.ofString "p"), L + 1) (by first | walk_at "mem" | simp)
    have e1 : (upd (upd (fun _ => none) (Str.ofString "p") (.int (p : Nat) tp)) (Str.ofString "q") (.int (q : Nat) tq)) (Str.ofString "p") = some (.int (p : Nat) tp) := by walk_at "look"
    rw [e1] at this; exact this
  have iQ : IsCel (oc (Str.ofString "q")) (some (.int (q : Nat) tq)) := by
    have := hoc ((Str.ofString "q"), L + 2) (by first | walk_at "mem" | simp)
    have e1 : (upd (upd (fun _ => none) (Str.ofString "p") (.int (p : Nat) tp)) (Str.ofString "q") (.int (q : Nat) tq)) (Str.ofString "q") = some (.int (q : Nat) tq) := by walk_at "look"
    rw [e1] at this; exact this
  replace H : S h [] L (upd (upd (upd (fun _ => none) (Str.ofString "matcher") (.ref x)) (Str.ofString "one") (.ref a1)) (Str.ofString "other") (.ref a2)) [(L + 2, oc (Str.ofString "q")), (L + 1, oc (Str.ofString "p"))] h₁ := H
  have hsc : (callEnvC fdOf_law_found L at_law_found).scope = (callEnvC fdOf_law_found 0 at_law_found).scope := rfl
  generalize hcP : L + 1 = cP at *
  generalize hcQ : L + 2 = cQ at *
  generalize oc (Str.ofString "p") = oP at *
  generalize oc (Str.ofString "q") = oQ at *
  clear hoc
  generalize henv : callEnvC fdOf_law_found L at_law_found = env at *
  have hLo : L = env.locals := by rw [← henv]; rfl
  subst hLo
  clear henv
  have hh' : (A.deeper env).handled = none := hh
  have hd' : (A.deeper env).depth + 18 < recursionLimit := by show A.depth + 1 + 18 < _; (first | lia | omega)
  have hu' : (A.deeper env).units + 30 < cLine := by show A.units + 3 + 30 < _; (first | lia | omega)
  generalize A.deeper env = A' at *
  have H' := H.opening MM.dict
  clear H
  have GG : ∀ {m l h₂}, S h [dx] env.locals m l h₂ → Gr (frag w.params) h₂ := fun H => gr_in G B hn H
  have L1 : ∀ {m l h₂}, S h [dx] env.locals m l h₂ → h₂.IsList a1 vs.toArray := fun H => hl1.at fun o eo => H.old eo (by simpa using na1)
  have L2 : ∀ {m l h₂}, S h [dx] env.locals m l h₂ → h₂.IsList a2 us.toArray := fun H => hl2.at fun o eo => H.old eo (by simpa using na2)
  refine T.execs_cons (T.Assign_Name (T.BinOp ?_))
  refine t_comp2P (f := times p q) (env₀ := callEnvC fdOf_law_found 0 at_law_found) e hh' hsc (by kernel_rfl!) (closureF2 (p := (Str.ofString "i")) (q := (Str.ofString "j")) rfl CP CQ) (by kernel_rfl!) (by kernel_rfl!) (by kernel_rfl!) ?_
  refine T.Call_Name ?_
  refine T.global (v := .ref at_law_pass) e (GG H') (by kernel_rfl!) ?_ (kg _ (by first | walk_at "mem" | simp)) (by decide +kernel)
  refine T.callWith ?_ rfl
  walk_at "nm"
  walk_at "nm"
  refine ⟨Keeps.frag (GG H').k (by kernel_rfl!), T.call ?_⟩
  refine pass (GG H') hh' (by (first | lia | omega)) (by (first | lia | omega)) (L1 H') hi1 (by (first | lia | omega)) (L2 H') hi2 (by (first | lia | omega)) fun h₂ r o vr fam ps E₂ l₂ P₂ gd => ?_
  have H₂ := H'.ext E₂
  have hpl := gd.len
  refine ⟨r, vr, fam, ps, rfl, l₂.isList (E₂.led _ (by first | walk_at "mem" | simp)), P₂, fun p hp => E₂.led p (by simp [hp]), by (first | lia | omega), ?_, fun acc oa va fam₃ h₃ X₃ l₃ T₃ => ?_⟩
  · intro env' m l h₃ i j t1 t2 R e' kx sc' cl' H₃ ci cj r'
    have kf : ∀ y ∈ [(Str.ofString "p"), (Str.ofString "q")], env'.kindOf y = some .cell := kinds_of sc' (env₀ := callEnvC fdOf_law_found 0 at_law_found) hsc (by kernel_rfl!)
    have lP : env'.cells.lookup (Str.ofString "p") = some cP := by rw [cl']; rfl
    have lQ : env'.cells.lookup (Str.ofString "q") = some cQ := by rw [cl']; rfl
    refine t_Tuple ?_ rfl
    refine T.BinOp ?_
    walk_at "nm"
    refine t_NameC e' (kf _ (by first | walk_at "mem" | simp)) lP (H₃.base _ _ (by first | walk_at "mem" | simp) (H₂.get (by first | walk_at "mem" | simp))) iP ?_ (by decide +kernel)
    refine T.mul (bits_small hp) fun u1 => ?_
    refine T.BinOp ?_
    walk_at "nm"
    refine t_NameC e' (kf _ (by first | walk_at "mem" | simp)) lQ (H₃.base _ _ (by first | walk_at "mem" | simp) (H₂.get (by first | walk_at "mem" | simp))) iQ ?_ (by decide +kernel)
    refine T.mul (bits_small hq) fun u2 => ?_
    refine T.cInt fun u3 => ⟨by show 3 ≤ sizeLine; decide, fun t h₄ ot s₄ n₄ g₄ l₄ => ?_⟩
    rw [← Int.natCast_mul, ← Int.natCast_mul] at l₄
    exact r' t h₄ ot u1 u2 u3 s₄ n₄ g₄ l₄
  have H₃ := H₂.ext X₃
  refine t_List (t_Tuple ?_ rfl) rfl
  refine T.BinOp (T.Call_Name ?_)
  refine T.builtin (v := .builtin "len") e (GG H₃) (by kernel_rfl!) (by kernel_rfl!) ?_ (kg _ (by first | walk_at "mem" | simp)) (by decide +kernel) (by decide +kernel)
  refine T.callWith ?_ rfl
  walk_at "nm"
  refine ⟨Keeps.builtin, t_len (L1 H₃) (by (first | lia | omega)) fun t4 => ?_⟩
  refine t_NameL e CP H₃ (by first | walk_at "mem" | simp) iP ?_ (by decide +kernel)
  refine T.mul (bits_small hp) fun t5 => ?_
  refine T.BinOp (T.Call_Name ?_)
  refine T.builtin (v := .builtin "len") e (GG H₃) (by kernel_rfl!) (by kernel_rfl!) ?_ (kg _ (by first | walk_at "mem" | simp)) (by decide +kernel) (by decide +kernel)
  refine T.callWith ?_ rfl
  walk_at "nm"
  refine ⟨Keeps.builtin, t_len (L2 H₃) (by (first | lia | omega)) fun t6 => ?_⟩
  refine t_NameL e CQ H₃ (by first | walk_at "mem" | simp) iQ ?_ (by decide +kernel)
  refine T.mul (bits_small hq) fun t7 => ?_
  refine T.cInt fun t8 => ⟨by show 3 ≤ sizeLine; decide, fun tA h₄ ot s₄ n₄ g₄ l₄ => ?_⟩
  have H₄ := H₃.add s₄ n₄ g₄
  refine ⟨by show 1 ≤ sizeLine; decide, fun lA h₅ ol s₅ n₅ g₅ l₅ => ?_⟩
  have H₅ := H₄.add s₅ n₅ g₅
  have h3l := T₃.length
  rw [List.length_map] at h3l
  refine t_addLists (l₃.isList (H₅.get (by first | walk_at "mem" | simp))) (l₅.isList g₅) (by rw [sizeLine_eq]; simp; (first | lia | omega)) fun du h₆ od₆ s₆ n₆ g₆ l₆ => ?_
  have H₆ := H₅.add s₆ n₆ g₆
  rw [hvl1, hvl2, ← Int.natCast_mul, ← Int.natCast_mul] at l₄
  have T₆ : TupsIn ((tA, ot) :: fam₃) (va ++ [.ref tA]) (ps.map (times p q) ++ [(one.length * p, other.length * q, 0)]) := (T₃.mono fun p hp => .tail _ hp).snoc (.head _) l₄
  refine T.storeName e H₆ (fun h₇ H₇ => ?_) (hL.of (by first | walk_at "mem" | simp))
  have p₈ : ((du, od₆) :: (lA, ol) :: (tA, ot) :: ((acc, oa) :: fam₃ ++ ((r, o) :: fam ++ [(dx, od), (cQ, oQ), (cP, oP)]))).Perm ((dx, od) :: (du, od₆) :: (lA, ol) :: (tA, ot) :: (acc, oa) :: (fam₃ ++ ((r, o) :: fam ++ [(cQ, oQ), (cP, oP)]))) := by
    have := List.perm_middle (a := (dx, od)) (l₁ := (du, od₆) :: (lA, ol) :: (tA, ot) :: ((acc, oa) :: fam₃ ++ ((r, o) :: fam))) (l₂ := [(cQ, oQ), (cP, oP)])
    simpa using this
  have H₈ := (H₇.perm p₈).drop (l' := (dx, od) :: (du, od₆) :: ((tA, ot) :: fam₃)) (.cons_cons _ (.cons_cons _ (.cons _ (.cons_cons _ (.cons _ (List.sublist_append_left _ _)))))) (by first | walk_at "mem" | simp)
  clear H₇
  have M₈ := MM.keep H₈.base (H₈.get (by first | walk_at "mem" | simp))
  refine T.execs_cons (T.Return (T.Compare ?_))
  refine t_compId (env₀ := callEnvC fdOf_law_found 0 at_law_found) e hh' (by decide +kernel) (by decide +kernel) (by decide +kernel) (by decide +kernel) (by decide +kernel) (by decide +kernel) hsc (by kernel_rfl!) (by decide +kernel) (by kernel_rfl!) (by kernel_rfl!) (by kernel_rfl!) (T.Call_method ?_)
  walk_at "nm"
  refine T.getMeth (f := at_SequenceMatcher_get_matching_blocks) (plainSM w.params) (GG H₈).k ⟨M₈.ob, M₈.dict⟩ M₈.attrs ok.m4 (by kernel_rfl!) (by kernel_rfl!) ?_
  refine T.callWith ⟨Keeps.frag (GG H₈).k (by kernel_rfl!), T.call ?_⟩ rfl
  have h1p : one.length * p ≤ 62 * 8 := Nat.mul_le_mul (by (first | lia | omega)) hp
  refine blocks G (sub_in B hn H₈.base) hn hh' (by (first | lia | omega)) (by (first | lia | omega)) M₈ hmb ok.m5 (by (first | lia | omega)) (fun W hW => by rw [hB ps W gd hW, List.length_map]; (first | lia | omega)) fun h₉ od₉ vb o₉ vs₉ W s₉ g₉ ia₉ n₉ gv l₉ B₉ mt => ?_
  have H₉ := H₈.upd (o' := od₉) 0 rfl s₉ g₉
  have eW := hB ps W gd B₉
  rw [B₉.merge] at mt
  have hml : W.length ≤ 62 := by rw [eW, List.length_map]; (first | lia | omega)
  refine ⟨vb, vs₉, _, rfl, l₉.isList gv, mt, GG H₉, by simp; (first | lia | omega), fun acc2 oa2 va2 fam2 h₁₀ X₁₀ la ta => ?_⟩
  have H₁₀ := H₉.ext X₁₀
  walk_at "nm"
  refine t_eqTups (by (first | lia | omega)) (la.isList (H₁₀.get (by first | walk_at "mem" | simp))) (l₆.isList (H₁₀.get (by first | walk_at "mem" | simp))) (ta.are fun p hp => H₁₀.led p (by simp [hp])) (T₆.are fun p hp => H₁₀.led p (by
    simp only [List.set_cons_zero, List.mem_append, List.mem_cons] at hp ⊢
    rcases hp with rfl | hp
    · exact .inr (.inr (.inr (.inl rfl)))
    · exact .inr (.inr (.inr (.inr hp))))) ?_
  rw [decide_eq_true (by rw [eW, hns, hms])]
  exact qq h₁₀ od₉ vb H₁₀.base (H₁₀.get (by first | walk_at "mem" | simp)) ia₉
end
end Mine

end
section
open PySem PySem.W PyProof.Rows PySem.Calls
set_option Elab.async false
set_option linter.unusedVariables false
set_option maxRecDepth 100000
set_option maxHeartbeats 4000000
namespace Mine
section
variable {prog : Program} {w : World} {A : Around} {h h' h₀ h₁ : Heap} {env : Env} {D : List Addr} {m : Str → Option Value} {l : List (Addr × Obj)}
theorem T.neg {a : Int} {t : Tok} {x : PySem.Expr} {pos : Pos} {Q : Value → Heap → Prop} (X : T prog w A (eval x env) h fun v h₁ => v = .int a t ∧ ∀ u, Q (.int (-a) u) h₁) : T prog w A (eval (.UnaryOp .USub x pos) env) h Q := fun s es =>
  UnaryOp_ (wpAny_mono (X s es) (by
    rintro v s₁ ⟨h₁, t₁, rfl, rfl, q⟩
    exact PyProof.Rows.neg_int ⟨_, _, rfl, q _⟩) fun _ _ z => z)
theorem t_abs {a : Int} {t : Tok} {Q : Value → Heap → Prop} (q : ∀ u, Q (.int (if a < 0 then -a else a) u) h) : T prog w A (call (.builtin "abs") [.int a t]) h Q := fun s es => by
  subst es
  exact call_abs_int fun u tk => ⟨_, tk, rfl, q u⟩
theorem t_SliceG {value : PySem.Expr} {lower upper : Option PySem.Expr} {p pos : Pos} {Q : Value → Heap → Prop}
    (x : T prog w A (eval value env) h fun o h₁ => T prog w A (evalPart lower env) h₁ fun vl h₂ => T prog w A (evalPart upper env) h₂ fun vu h₃ => ∃ a vs lo hi, o = .ref a ∧ h₃.IsList a (List.toArray vs) ∧ vs.length ≤ sizeLine ∧ IsPart vl lo ∧ IsPart vu hi ∧ ∀ r h' ob, Sub [] h₃ h' → h₃.get? r = none → h'.get? r = some ob → IsLst ob (slicePick vs.toArray lo hi none).toList → Q (.ref r) h') :
    T prog w A (eval (.Subscript value (.Slice lower upper none p) pos) env) h Q := fun s es => by
  rw [eval_Subscript]
  refine wpAny_bind (wpAny_mono (x s es) ?_ fun _ _ z => z)
  rintro o s₁ ⟨h₁, t₁, rfl, y⟩
  refine wpAny_bind (wpAny_holding (wpAny_Slice (wpAny_mono (y _ rfl) ?_ fun _ _ z => z)))
  rintro vl s₂ ⟨h₂, t₂, rfl, y⟩
  refine wpAny_mono (y _ rfl) ?_ fun _ _ z => z
  rintro vu s₃ ⟨h₃, t₃, rfl, a, vs, lo, hi, rfl, hl, hz, p1, p2, q⟩
  rw [evalPart_none]
  refine wpAny_pure (wpAny_bind (wpAny_standAt ?_))
  have hT : (⟨h₃.push { cls := .type "slice", data := .fields #[vl, vu, .none] }, s.gens, s.drawn, t₃, s.os⟩ : Shared).TypeIs (.ref a) "list" := (hl.push _).typeIs
  have got : wpAny (model prog w) A (getItem (.ref a) (.ref h₃.objs.size)) (fun r s' => ∃ h' tk, s' = { s with heap := h', toks := tk } ∧ Q r h') (fun _ _ => False) ⟨h₃.push { cls := .type "slice", data := .fields #[vl, vu, .none] }, s.gens, s.drawn, t₃, s.os⟩ := by
    refine wpAny_getItem_list_slice (hl.push _) (Heap.IsSliceOf.new ..) p1 p2 .none (by first | walk_at "mem" | simp) ?_ (by simpa using hz)
    rw [Heap.size_push]
    refine ⟨_, t₃, rfl, q _ _ _ (fun b o _ eb => Heap.get?_push_of_some _ (Heap.get?_push_of_some _ eb)) ?_ ?_ ⟨0, by rw [Array.toArray_toList]⟩⟩
    · cases e : h₃.get? (h₃.objs.size + 1) with
      | none => rfl
      | some o => exact absurd (Heap.lt_size e) (Nat.not_lt.mpr (Nat.le_succ _))
    · have := get_push_self (h₃.push { cls := .type "slice", data := .fields #[vl, vu, .none] }) { cls := .type "list", data := .seq (slicePick vs.toArray lo hi none) }
      rwa [Heap.size_push] at this
  have fin : wpAny (model prog w) A (operate [.ref h₃.objs.size, .ref a] (getItem (.ref a) (.ref h₃.objs.size))) (fun r s₃ => wpAny (model prog w) A (letTemporaryGo value (.ref a) r >>= fun _ => pure r) (fun a s' => ∃ h' tk, s' = { s with heap := h', toks := tk } ∧ Q a h') (fun _ _ => False) s₃) (fun _ _ => False) ⟨h₃.push { cls := .type "slice", data := .fields #[vl, vu, .none] }, s.gens, s.drawn, t₃, s.os⟩ :=
    wpAny_operating (wpAny_mono got (fun r s₃ h₃ => wpAny_bind (wpAny_letTemporaryGo (wpAny_pure h₃))) fun _ _ x => x)
  first
    | (refine wpAny_bind ?_
       rw [getitemInPython_of_ne hT.not_modules]
       refine wpAny_bind (wpAny_specialOf hT PySem.F.slot_list_getitem.lookup ?_)
       exact wpAny_pure (wpAny_bind fin))
    | (refine wpAny_bind ?_
       rw [getitemInPython_of_ne hT.not_modules]
       refine wpAny_bind (wpAny_specialOf hT PySem.F.slot_list_getitem.lookup ?_)
       refine wpAny_pure ?_
       trace_state
       exact fin)
theorem t_unpackL2 {t : Addr} {o : Obj} {v1 v2 : Value} {Q : List Value → Heap → Prop} (hh : A.handled = none) (ho : h.get? t = some o) (ht : IsLst o [v1, v2]) (q : ∀ h', Sub [] h h' → Q [v1, v2] h') : T prog w A (unpackItems (.ref t) 2 none) h Q := fun s es => by
  subst es
  have hl := ht.isList ho
  have hlt : t ≠ s.heap.objs.size := Nat.ne_of_lt (Heap.lt_size ho)
  unfold unpackItems
  refine wpAny_bind ?_
  unfold notIterableAtAll
  refine wpAny_bind (wpAny_specialOf hl.typeIs PySem.F.slot_list_iter.lookup ?_)
  refine wpAny_pure ?_
  simp only [Bool.false_eq_true, if_false]
  refine wpAny_bind (wpAny_holding (wpAny_pyIter_list hl ?_))
  generalize hI : s.heap.objs.size = I at *
  have g0 : (s.heap.push { cls := .type "list_iterator", data := .fields #[.ref t, rawInt 0] }).get? I = some { cls := .type "list_iterator", data := .fields #[.ref t, rawInt 0] } := by rw [← hI]; exact get_push_self _ _
  refine wpAny_bind (wpAny_holding ?_)
  have l0 : (s.heap.push { cls := .type "list_iterator", data := .fields #[.ref t, rawInt 0] }).IsList t (List.toArray [v1, v2]) := hl.push _
  show wpAny _ _ (pyNext (.ref I) >>= _) _ _ _
  refine wpAny_bind (wpAny_pyNext_list_item (i := 0) ⟨_, g0, rfl, rfl⟩ l0 (x := v1) (by rfl) fun h1 hit1 hs1 => ?_)
  have l1 : h1.IsList t (List.toArray [v1, v2]) := l0.at fun o eo => (hs1.2 t hlt).trans eo
  refine wpAny_bind (wpAny_holding ?_)
  show wpAny _ _ (pyNext (.ref I) >>= _) _ _ _
  refine wpAny_bind (wpAny_pyNext_list_item (i := 1) hit1 l1 (x := v2) (by rfl) fun h2 hit2 hs2 => ?_)
  have l2 : h2.IsList t (List.toArray [v1, v2]) := l1.at fun o eo => (hs2.2 t hlt).trans eo
  refine wpAny_bind (wpAny_holding (wpAny_pure ?_))
  refine wpAny_pure (wpAny_pure ?_)
  rw [if_neg (by first | walk_at "mem" | simp)]
  refine wpAny_bind (wpAny_holding (wpAny_pyNext_list_end hh hit2 l2 (by first | walk_at "mem" | simp) fun h3 he3 => ?_))
  simp only [Option.isSome_none, Bool.false_eq_true, if_false]
  refine wpAny_pure ⟨h3, s.toks, rfl, q h3 fun b ob _ eb => ?_⟩
  have hb : b ≠ I := fun z => by rw [z, ← hI, get_size_none] at eb; cases eb
  exact he3 b ob hb ((hs2.2 b hb).trans ((hs1.2 b hb).trans (Heap.get?_push_of_some _ eb)))
theorem t_AssignL2 {x y : Str} {px py tpos : Pos} {k : Nat} {t : Addr} {o : Obj} {v1 v2 : Value} {Q : Unit → Heap → Prop} (e : EnvOk env) (hh : A.handled = none) (H : S h₀ D env.locals m l h) (ho : h.get? t = some o) (ht : IsLst o [v1, v2]) (hk : ∀ z ∈ [x, y], env.kindOf z = some .local)
    (q : ∀ h', S h₀ D env.locals (upd (upd m x v1) y v2) l h' → Q () h') : T prog w A (assign (.Tuple [.Name x px, .Name y py] k tpos) env (.ref t)) h Q :=
  t_unpackTo (names := [x, y]) e H (fun q' => t_unpackL2 hh ho ht q') rfl hk q
end
end Mine

end
section
set_option linter.unusedVariables false
namespace Mine
theorem spreadL_cons {x : Int} {ns : List Int} {f : Int} {k : Nat} : spreadL (x :: ns) f k = (x :: List.replicate k f) ++ spreadL ns f k := by simp [spreadL]
theorem spr_spread (f : Int) (k : Nat) : ∀ ns : List Int, Spr (spreadL ns f k) ns (k + 1) f
  | [] => ⟨by (first | lia | omega), by simp, fun i h => by simp at h, fun j h => by simp at h⟩
  | x :: ns => by
    have ih := spr_spread f k ns
    have hl : (x :: List.replicate k f).length = k + 1 := by simp
    refine ⟨by (first | lia | omega), ?_, ?_, ?_⟩
    · rw [spreadL_len, Nat.mul_comm]; exact Nat.le_refl _
    · intro i hi
      rw [spreadL_cons]
      cases i with
      | zero => simp
      | succ i =>
        have e1 : (k + 1) * (i + 1) = (k + 1) * i + (k + 1) := Nat.mul_succ _ _
        rw [List.getElem?_append_right (by rw [hl, e1]; (first | lia | omega)), hl]
        have e2 : (k + 1) * (i + 1) - (k + 1) = (k + 1) * i := by rw [e1]; (first | lia | omega)
        rw [e2, ih.item i (by simpa using hi)]
        simp
    · intro j hj hm
      rw [spreadL_cons]
      by_cases c : j < k + 1
      · rw [List.getElem?_append_left (by rw [hl]; (first | lia | omega))]
        cases j with
        | zero => exact absurd (Nat.zero_mod _) hm
        | succ j =>
          rw [List.getElem?_cons_succ, List.getElem?_replicate, if_pos (by (first | lia | omega))]
      · rw [List.getElem?_append_right (by rw [hl]; (first | lia | omega)), hl]
        have e1 : (k + 1) * (x :: ns).length = (k + 1) * ns.length + (k + 1) := by rw [List.length_cons]; exact Nat.mul_succ _ _
        refine ih.gap _ (by (first | lia | omega)) ?_
        rw [← Nat.mod_eq_sub_mod (by (first | lia | omega))]
        exact hm
section
variable {a b one other : List Int} {p q k : Nat} {f g F : Int} {W : List (Nat × Nat × Nat)} {ps : List (Nat × Nat)}
theorem askS (A : Spr a one p f) (B : Spr b other q g) (hfg : f ≠ g) (hf : f ∉ other) (hg : g ∉ one) (hpq : 2 ≤ p ∨ 2 ≤ q) (la : a.length = one.length * p) (lb : b.length = other.length * q) (x : Gd one other one.length other.length 0 0 ps) (h : Blk a b 0 a.length 0 b.length W) : W = ps.map fun x => (x.1 * p, x.2 * q, 1) :=
  spread_blk A B hfg hf hg hpq x (by rw [Nat.mul_comm p, Nat.mul_comm q, ← la, ← lb]; exact h)
noncomputable def Inner (F : Int) (l : List Int) : Prop := ∀ x ∈ l, -F < x ∧ x < F
theorem Inner.up (h : Inner F one) : F ∉ one := fun q => by have := h _ q; (first | lia | omega)
theorem Inner.dn (h : Inner F one) : -F ∉ one := fun q => by have := h _ q; (first | lia | omega)
theorem Inner.up1 (h : Inner F one) (hF : 0 < F) (d : Int) (hd : 0 < d) : F + d ∉ one := fun q => by have := h _ q; (first | lia | omega)
theorem ask1 (h1 : Inner F one) (h2 : Inner F other) (hF : 0 < F) (hk : 1 ≤ k) (x : Gd one other one.length other.length 0 0 ps) (h : Blk one (spreadL other (-F) k) 0 one.length 0 (spreadL other (-F) k).length W) : W = ps.map fun x => (x.1 * 1, x.2 * (k + 1), 1) :=
  askS (Spr.plain one F) (spr_spread (-F) k other) (by (first | lia | omega)) h2.up h1.dn (.inr (by (first | lia | omega))) (by (first | lia | omega)) spreadL_len x h
theorem ask2 (h1 : Inner F one) (h2 : Inner F other) (hF : 0 < F) (hk : 1 ≤ k) (x : Gd one other one.length other.length 0 0 ps) (h : Blk (spreadL one F k) (spreadL other (-F) k) 0 (spreadL one F k).length 0 (spreadL other (-F) k).length W) : W = ps.map fun x => (x.1 * (k + 1), x.2 * (k + 1), 1) :=
  askS (spr_spread F k one) (spr_spread (-F) k other) (by (first | lia | omega)) h2.up h1.dn (.inr (by (first | lia | omega))) spreadL_len spreadL_len x h
theorem ask3 (h1 : Inner F one) (h2 : Inner F other) (hF : 0 < F) (hk : 1 ≤ k) (x : Gd one other one.length other.length 0 0 ps) (h : Blk (spreadL one F k) other 0 (spreadL one F k).length 0 other.length W) : W = ps.map fun x => (x.1 * (k + 1), x.2 * 1, 1) :=
  askS (spr_spread F k one) (Spr.plain other (-F)) (by (first | lia | omega)) h2.up h1.dn (.inl (by (first | lia | omega))) spreadL_len (by (first | lia | omega)) x h
theorem ask4 (h1 : Inner F one) (h2 : Inner F other) (hF : 0 < F) (hk : 1 ≤ k) (x : Gd other one other.length one.length 0 0 ps) (h : Blk other (spreadL one F k) 0 other.length 0 (spreadL one F k).length W) : W = ps.map fun x => (x.1 * 1, x.2 * (k + 1), 1) :=
  askS (Spr.plain other (-F)) (spr_spread F k one) (by (first | lia | omega)) h1.dn h2.up (.inr (by (first | lia | omega))) (by (first | lia | omega)) spreadL_len x h
theorem ask5 (h1 : Inner F one) (h2 : Inner F other) (hF : 0 < F) (hk : 1 ≤ k) (x : Gd one other one.length other.length 0 0 ps) (h : Blk (one ++ [F + 1, F + 2]) (spreadL other (-F) k ++ [F + 1, F + 2]) 0 (one ++ [F + 1, F + 2]).length 0 (spreadL other (-F) k ++ [F + 1, F + 2]).length W) : W = (ps.map fun x => (x.1, x.2 * (k + 1), 1)) ++ [(one.length, other.length * (k + 1), 2)] := by
  have hl : (spreadL other (-F) k).length = (k + 1) * other.length := by rw [spreadL_len, Nat.mul_comm]
  have := new_blk (f := F) (spr_spread (-F) k other) hl (by (first | lia | omega)) (h1.up1 hF 1 (by (first | lia | omega))) (h1.up1 hF 2 (by (first | lia | omega))) (h2.up1 hF 1 (by (first | lia | omega))) (h2.up1 hF 2 (by (first | lia | omega))) (by (first | lia | omega)) (by (first | lia | omega)) (by (first | lia | omega)) h1.dn h2.up (by (first | lia | omega)) x (by
    rw [List.length_append, List.length_append, hl] at h
    exact h)
  rw [this, Nat.mul_comm (k + 1)]
end
end Mine

end
section
open PySem PySem.W PyProof.Rows PySem.Calls
set_option Elab.async false
set_option linter.unusedVariables false
set_option maxRecDepth 100000
set_option maxHeartbeats 4000000
namespace Mine
section
variable {prog : Program} {w : World} {A : Around} {h h' h₀ h₁ : Heap} {env : Env} {D : List Addr} {m : Str → Option Value} {l : List (Addr × Obj)}
noncomputable def lawB : List Stmt := bodyN (stN pwBody 10)
noncomputable abbrev lawN : List Str := [(Str.ofString "script"), (Str.ofString "first"), (Str.ofString "second"), (Str.ofString "items"), (Str.ofString "cut"), (Str.ofString "one"), (Str.ofString "other"), (Str.ofString "foreign"), (Str.ofString "wide"), (Str.ofString "matcher"), (Str.ofString "new"), (Str.ofString "size"), (Str.ofString "due")]
noncomputable abbrev lawG : List Str := [(Str.ofString "len"), (Str.ofString "max"), (Str.ofString "_law_spread"), (Str.ofString "SequenceMatcher"), (Str.ofString "_law_found"), (Str.ofString "_law_pass")]
noncomputable abbrev envL : Env := callEnvC fdOf_law 0 at_law
theorem fn_law (P : Params) : FnOkC (frag P) at_law fdOf_law lawB :=
  ⟨⟨obOf_law P, by kernel_rfl!, rfl⟩, by kernel_rfl!, by kernel_rfl!, by kernel_rfl!, by kernel_rfl!, by kernel_rfl!, by kernel_rfl!, by kernel_rfl!, by kernel_rfl!⟩
structure Lw (prog : Program) (w : World) (A : Around) (h₀ : Heap) (env : Env) (cK cM : Addr) : Prop where
  e : EnvOk env
  hL : Loc env lawN
  kg : ∀ y ∈ lawG, env.kindOf y = some .globalImplicit
  hsc : env.scope = envL.scope
  hh : A.handled = none
  G : Gr (frag w.params) h₀
  CK : Cel env (Str.ofString "kind") cK
  CM : Cel env (Str.ofString "many") cM
  hd : A.depth + 40 < recursionLimit
  hu : A.units + 60 < cLine
theorem closureF1 {scope : Scope} {p x : Str} {cx : Addr} (hn : scope.names = [(Str.ofString ".0", .local), (p, .local), (x, .free)]) (Cx : Cel env x cx) : closureFor scope env = pure [(x, cx)] := by
  simp [closureFor, hn, cellOf, Cx.look]
section
variable {cK cM : Addr}
theorem law_items {sa : Addr} {oS oK oM : Obj} {vs : List Value} {ns : List Int} {kd sc : Int} {tk tk2 ts : Tok} {kn : Nat} (X : Lw prog w A h₀ env cK cM) (iK : IsCel oK (some (.int kd tk))) (hkd : 0 ≤ kd) (iM : IsCel oM (some (.int (kn : Nat) tk2))) (hk : 1 ≤ kn ∧ kn ≤ 3) (cs : m (Str.ofString "script") = some (.ref sa)) (c2 : m (Str.ofString "second") = some (.int sc ts)) (lS : IsLst oS vs) (iS : IntsAre vs ns) (hz : ns.length ≤ 63) (hs : (sa, oS) ∈ l) (H : S h₀ [] env.locals m ((cK, oK) :: (cM, oM) :: l) h) {Q : Flow → Heap → Prop}
    (q : ∀ h' m' a1 o1 v1 one a2 o2 v2 other F tF l', IsLst o1 v1 → IntsAre v1 one → one.length ≤ 61 → IsLst o2 v2 → IntsAre v2 other → other.length ≤ 61 → Inner F one → Inner F other → 0 < F → m' (Str.ofString "one") = some (.ref a1) → m' (Str.ofString "other") = some (.ref a2) → m' (Str.ofString "foreign") = some (.int F tF) → S h₀ [] env.locals m' ((cM, oM) :: (a1, o1) :: (a2, o2) :: l') h' → T prog w A (execs (lawB.drop 8) env) h' Q) : T prog w A (execs (lawB.drop 4) env) h Q := by
  have e := X.e
  have hL := X.hL
  have hvl := iS.length
  refine T.execs_cons (t_AssignComp (h₀ := h₀) (D := []) e (sw_comp e (hL.of (by first | walk_at "mem" | simp)) rfl (by kernel_rfl!)) (closureF1 (p := (Str.ofString "x")) rfl X.CK) (by kernel_rfl!) (by kernel_rfl!) (by kernel_rfl!) (hL.of (by first | walk_at "mem" | simp)) (t_Slice ?_))
  walk_at "nm"
  refine t_part1 (T.cInt fun t2 => t_part0 ?_)
  refine ⟨sa, vs, _, _, rfl, lS.isList (H.get (by simp [hs])), by rw [sizeLine_eq]; (first | lia | omega), .int _ _, .none, fun s2 h₄ ob₄ s₄ n₄ g₄ l₄ => ?_⟩
  have e1 := pick_from vs 2
  rw [show ((2 : Nat) : Int) = 2 from rfl] at e1
  rw [e1] at l₄
  have i₄ := intsAre_drop iS 2
  have hdl : (ns.drop 2).length ≤ 61 := by simp; (first | lia | omega)
  generalize ns.drop 2 = ms at *
  generalize vs.drop 2 = us at *
  have hul := i₄.length
  have H₄ := H.sub s₄
  refine ⟨_, _, _, _, H₄, t_iterListN X.hh (l₄.isList g₄), fun env' acc oacc e' sc' cl' lacc => ?_⟩
  have kx : Loc env' [(Str.ofString "x")] := ⟨kinds_of sc' (env₀ := envL) X.hsc (by kernel_rfl!)⟩
  have kf : ∀ y ∈ [(Str.ofString "kind")], env'.kindOf y = some .cell := kinds_of sc' (env₀ := envL) X.hsc (by kernel_rfl!)
  have lF : env'.cells.lookup (Str.ofString "kind") = some cK := by rw [cl']; rfl
  refine ⟨fun i m₁ l₁ => ∃ oa va ks, l₁ = [(acc, oa)] ∧ IsLst oa va ∧ IntsAre va ks ∧ ks.length = i, ⟨oacc, [], [], rfl, lacc, .nil, rfl⟩, ?_, ?_⟩
  · rintro i v m₁ l₁ I o h₅ hi5 hv ⟨oa, va, ks, rfl, la, ia, hkl⟩ H₅
    have hlt : i < ms.length := by (first | lia | omega)
    obtain ⟨tx, hx⟩ := i₄.get i (ms[i]) (List.getElem?_eq_getElem hlt)
    rw [hx] at hv
    obtain rfl := Option.some.inj hv
    refine t_assignName e' H₅ (fun h₆ H₆ => ?_) (kx.of (by first | walk_at "mem" | simp))
    refine t_tests0 ?_
    rw [if_pos rfl]
    have gK : h₆.get? cK = some oK := H₆.base _ _ (by first | walk_at "mem" | simp) (H₄.get (by first | walk_at "mem" | simp))
    have hval : va.length ≤ 61 := by have := ia.length; (first | lia | omega)
    have fin : ∀ (z : Int) t, T prog w A (call (.builtin "list.append") [.ref acc, .int z t]) h₆ fun _ h₇ => ∃ m₂ l₂, (∃ oa va ks, l₂ = [(acc, oa)] ∧ IsLst oa va ∧ IntsAre va ks ∧ ks.length = i + 1) ∧ S h₄ [] env'.locals m₂ (l₂ ++ [(I, o)]) h₇ := fun z t => by
      refine t_append (H₆.get (by first | walk_at "mem" | simp)) la (by rw [sizeLine_eq]; (first | lia | omega)) fun h₇ o₇ s₇ g₇ l₇ => ?_
      exact ⟨_, [(acc, o₇)], ⟨o₇, _, _, rfl, l₇, intsAre_snoc ia, by simp; (first | lia | omega)⟩, H₆.upd (o' := o₇) 0 rfl s₇ g₇⟩
    refine t_IfExp (T.isTrue_Compare ?_)
    refine t_NameC e' (kf _ (by first | walk_at "mem" | simp)) lF gK iK ?_ (by decide +kernel)
    refine T.cInt fun t3 => T.gt (T.truthy_bool ?_)
    apply ite_cases <;> intro _
    · refine T.BinOp ?_
      refine T.Name e' H₆ upd_here ?_ (kx.of (by first | walk_at "mem" | simp)) (by decide +kernel)
      refine T.BinOp ?_
      refine t_NameC e' (kf _ (by first | walk_at "mem" | simp)) lF gK iK ?_ (by decide +kernel)
      refine T.cInt fun t4 => T.add fun t5 => T.mod (by (first | lia | omega)) fun t6 => ?_
      exact fin _ _
    · refine T.Name e' H₆ upd_here ?_ (kx.of (by first | walk_at "mem" | simp)) (by decide +kernel)
      exact fin _ _
  · rintro m₁ l₂ h₅ ⟨oW, vw, items, rfl, lW, iW, hwl⟩ H₅
    rw [hul] at hwl
    have hvw := iW.length
    refine T.execs_cons (T.Assign_Name (T.BinOp ?_))
    walk_at "nm"
    refine T.BinOp (T.Call_Name ?_)
    refine T.builtin (v := .builtin "len") e (X.G.sub H₅.base) (by kernel_rfl!) (by kernel_rfl!) ?_ (X.kg _ (by first | walk_at "mem" | simp)) (by decide +kernel) (by decide +kernel)
    refine T.callWith ?_ rfl
    walk_at "nm"
    refine ⟨Keeps.builtin, t_len (lW.isList (H₅.get (by first | walk_at "mem" | simp))) (by (first | lia | omega)) fun t5 => ?_⟩
    refine T.cInt fun t6 => T.add fun t7 => T.mod (by (first | lia | omega)) fun t8 => ?_
    have fm := fmod_lt (a := sc) (b := (vw.length : Int) + 1) (by (first | lia | omega))
    obtain ⟨c, hc⟩ : ∃ c : Nat, sc.fmod ((vw.length : Int) + 1) = (c : Int) := ⟨_, (Int.toNat_of_nonneg fm.1).symm⟩
    rw [hc] at fm
    rw [hc]
    refine T.storeName e H₅ (fun h₆ H₆ => ?_) (hL.of (by first | walk_at "mem" | simp))
    refine T.execs_cons ?_
    refine t_AssignSwap (h₀ := h₀) (D := []) (names := [(Str.ofString "one"), (Str.ofString "other")]) e X.hh ?_ (hL.subs (by decide +kernel)) (sw_scope (env' := envL) X.hsc |>.trans (by kernel_rfl!)) rfl
    refine t_Slice ?_
    walk_at "nm"
    refine t_part0 (t_part1 ?_)
    walk_at "nm"
    refine ⟨acc, vw, _, _, rfl, lW.isList (H₆.get (by first | walk_at "mem" | simp)), by rw [sizeLine_eq]; (first | lia | omega), .none, .int _ _, fun a1 h₇ o1 s₇ n₇ g₇ l₇ => ?_⟩
    rw [pick_upto vw c] at l₇
    have H₇ := H₆.add s₇ n₇ g₇
    refine t_Slice ?_
    walk_at "nm"
    refine t_part1 ?_
    walk_at "nm"
    refine t_part0 ?_
    refine ⟨acc, vw, _, _, rfl, lW.isList (H₇.get (by first | walk_at "mem" | simp)), by rw [sizeLine_eq]; (first | lia | omega), .int _ _, .none, fun a2 h₈ o2 s₈ n₈ g₈ l₈ => ?_⟩
    rw [pick_from vw c] at l₈
    have H₈ := H₇.add s₈ n₈ g₈
    refine ⟨by show 2 ≤ sizeLine; decide, rfl, _, _, H₈, fun h₉ H₉ => ?_⟩
    simp only [updAll, List.reverse_cons, List.reverse_nil, List.nil_append, List.cons_append] at H₉
    have i1 := intsAre_take iW c
    have i2 := intsAre_drop iW c
    refine T.execs_cons (T.Assign_Name (T.BinOp (T.cInt fun t9 => T.Call_Name ?_)))
    refine T.builtin (v := .builtin "max") e (X.G.sub H₉.base) (by kernel_rfl!) (by kernel_rfl!) ?_ (X.kg _ (by first | walk_at "mem" | simp)) (by decide +kernel) (by decide +kernel)
    refine T.callWith (T.BinOp (t_List ?_ rfl)) rfl
    refine T.cInt fun t10 => ⟨by show 1 ≤ sizeLine; decide, fun z1 h₁₀ oz s₁₀ n₁₀ g₁₀ l₁₀ => ?_⟩
    have H₁₀ := H₉.add s₁₀ n₁₀ g₁₀
    refine t_ListComp e (closureFor_none (by decide +kernel)) (by kernel_rfl!) (by kernel_rfl!) (by kernel_rfl!) ?_
    walk_at "nm"
    refine ⟨_, _, t_iterListN X.hh (lW.isList (H₁₀.get (by first | walk_at "mem" | simp))), fun env' acc2 oacc2 e' sc' cl' lacc => ?_⟩
    have kx : Loc env' [(Str.ofString "x")] := ⟨kinds_of sc' (env₀ := envL) X.hsc (by kernel_rfl!)⟩
    have kg' : ∀ y ∈ [(Str.ofString "abs")], env'.kindOf y = some .globalImplicit := kinds_of sc' (env₀ := envL) X.hsc (by kernel_rfl!)
    refine ⟨fun i m₁ l₁ => ∃ oa va, l₁ = [(acc2, oa)] ∧ IsLst oa va ∧ IntsAre va ((items.take i).map fun x => if x < 0 then -x else x), ⟨oacc2, [], rfl, lacc, .nil⟩, ?_, ?_⟩
    · rintro i v m₁ l₁ I o h₁₁ hi11 hv ⟨oa, va, rfl, la, ia⟩ H₁₁
      have hlt : i < items.length := by (first | lia | omega)
      obtain ⟨tx, hx⟩ := iW.get i (items[i]) (List.getElem?_eq_getElem hlt)
      rw [hx] at hv
      obtain rfl := Option.some.inj hv
      refine t_assignName e' H₁₁ (fun h₁₂ H₁₂ => ?_) (kx.of (by first | walk_at "mem" | simp))
      refine t_tests0 ?_
      rw [if_pos rfl]
      refine T.Call_Name ?_
      refine T.builtin (v := .builtin "abs") e' ((X.G.sub H₁₀.base).sub H₁₂.base) (by kernel_rfl!) (by kernel_rfl!) ?_ (kg' _ (by first | walk_at "mem" | simp)) (by decide +kernel) (by decide +kernel)
      refine T.callWith ?_ rfl
      refine T.Name e' H₁₂ upd_here ?_ (kx.of (by first | walk_at "mem" | simp)) (by decide +kernel)
      refine ⟨Keeps.builtin, t_abs fun u => ?_⟩
      have hval : va.length ≤ 61 := by have := ia.length; simp at this; (first | lia | omega)
      refine t_append (H₁₂.get (by first | walk_at "mem" | simp)) la (by rw [sizeLine_eq]; (first | lia | omega)) fun h₁₃ o₁₃ s₁₃ g₁₃ l₁₃ => ?_
      refine ⟨_, [(acc2, o₁₃)], ⟨o₁₃, _, rfl, l₁₃, ?_⟩, H₁₂.upd (o' := o₁₃) 0 rfl s₁₃ g₁₃⟩
      rw [List.take_add_one, List.getElem?_eq_getElem hlt, List.map_append]
      exact intsAre_snoc ia
    · rintro m₁ l₂ h₁₁ ⟨oA, vA, rfl, lA, iA⟩ X₁₁
      rw [hvw, List.take_length] at iA
      have H₁₁ := H₁₀.ext X₁₁
      have hva := iA.length
      rw [List.length_map] at hva
      refine t_addLists (l₁₀.isList (H₁₁.get (by first | walk_at "mem" | simp))) (lA.isList (H₁₁.get (by first | walk_at "mem" | simp))) (by rw [sizeLine_eq]; simp; (first | lia | omega)) fun r h₁₂ or s₁₂ n₁₂ g₁₂ l₁₂ => ?_
      have H₁₂ := H₁₁.add s₁₂ n₁₂ g₁₂
      have iR : IntsAre ([Value.int 0 t10] ++ vA) (0 :: items.map fun x => if x < 0 then -x else x) := .cons _ _ iA
      refine ⟨Keeps.builtin, t_maxList X.hh H₁₂ (l₁₂.isList g₁₂) iR (by first | walk_at "mem" | simp) fun h₁₃ M tM H₁₃ k₁₃ hM hle => ?_⟩
      refine T.add fun t11 => ?_
      refine T.storeName e H₁₃ (fun h₁₄ H₁₄ => ?_) (hL.of (by first | walk_at "mem" | simp))
      have inn : ∀ x ∈ items, -(1 + M) < x ∧ x < 1 + M := fun x hx => by
        have := hle _ (List.mem_cons_of_mem 0 (List.mem_map_of_mem (f := fun x : Int => if x < 0 then -x else x) hx))
        split at this <;> (first | lia | omega)
      have hM0 : 0 ≤ M := hle 0 (by first | walk_at "mem" | simp)
      have p₁₄ : ((r, or) :: (acc2, oA) :: (z1, oz) :: (a2, o2) :: (a1, o1) :: (acc, oW) :: (cK, oK) :: (cM, oM) :: l).Perm ((r, or) :: (acc2, oA) :: (z1, oz) :: (acc, oW) :: (cK, oK) :: (cM, oM) :: (a1, o1) :: (a2, o2) :: l) := .cons _ (.cons _ (.cons _ ((List.perm_append_comm_assoc [(a2, o2), (a1, o1)] [(acc, oW), (cK, oK), (cM, oM)] l).trans (.cons _ (.cons _ (.cons _ (List.Perm.swap _ _ _)))))))
      have H₁₅ := (H₁₄.perm p₁₄).drop (l' := (cM, oM) :: (a1, o1) :: (a2, o2) :: l) (.cons _ (.cons _ (.cons _ (.cons _ (.cons _ (List.Sublist.refl _)))))) (by first | walk_at "mem" | simp)
      exact q h₁₄ _ a1 o1 _ _ a2 o2 _ _ (1 + M) t11 l l₇ i1 (by simp; (first | lia | omega)) l₈ i2 (by simp; (first | lia | omega)) (fun x hx => inn x (List.mem_of_mem_take hx)) (fun x hx => inn x (List.mem_of_mem_drop hx)) (by (first | lia | omega)) (by walk_at "look") (by walk_at "look") upd_here H₁₅
end
end
end Mine

end
section
open PySem PySem.W PyProof.Rows PySem.Calls
set_option Elab.async false
set_option linter.unusedVariables false
set_option maxRecDepth 100000
set_option maxHeartbeats 4000000
namespace Mine
section
variable {prog : Program} {w : World} {A : Around} {h h' h₀ h₁ : Heap} {env : Env} {D : List Addr} {m : Str → Option Value} {l : List (Addr × Obj)}
variable {cK cM : Addr}
theorem padded_two {vs : List Value} {ns : List Int} (i : IntsAre vs ns) (t1 t2 : Tok) : ∃ (a b : Int) (u1 u2 : Tok), (vs ++ [Value.int 0 t1, Value.int 0 t2]).take 2 = [Value.int a u1, Value.int b u2] := by
  cases i with
  | nil => exact ⟨_, _, _, _, rfl⟩
  | cons n t r =>
    cases r with
    | nil => exact ⟨_, _, _, _, rfl⟩
    | cons n' t' r' => exact ⟨_, _, _, _, rfl⟩
theorem law_head {sa : Addr} {oK oM : Obj} {v₀ v₁ : Option Value} {vs : List Value} {ns : List Int} (X : Lw prog w A h₀ env cK cM) (iK : IsCel oK v₀) (iM : IsCel oM v₁) (cs : m (Str.ofString "script") = some (.ref sa)) (hl : h₀.IsList sa vs.toArray) (hi : IntsAre vs ns) (hz : ns.length < 10000) (H : S h₀ [] env.locals m [(cM, oM), (cK, oK)] h) {Q : Flow → Heap → Prop}
    (q : ∀ h' m' s1 oS vs' ns' oK' oM' (kd sc : Int) tk tk2 ts (kn : Nat), IsCel oK' (some (.int kd tk)) → 0 ≤ kd → IsCel oM' (some (.int (kn : Nat) tk2)) → 1 ≤ kn ∧ kn ≤ 3 → m' (Str.ofString "script") = some (.ref s1) → m' (Str.ofString "second") = some (.int sc ts) → IsLst oS vs' → IntsAre vs' ns' → ns'.length ≤ 63 → S h₀ [] env.locals m' [(cK, oK'), (cM, oM'), (s1, oS)] h' → T prog w A (execs (lawB.drop 4) env) h' Q) : T prog w A (execs lawB env) h Q := by
  have e := X.e
  have hL := X.hL
  have hvl := hi.length
  have hu := X.hu
  refine T.execs_cons (T.Assign_Name (t_Slice ?_))
  walk_at "nm"
  refine t_part0 (t_part1 (T.cInt fun t1 => ?_))
  refine ⟨sa, vs, _, _, rfl, hl.at fun o eo => H.old eo (by first | walk_at "mem" | simp), by rw [sizeLine_eq]; (first | lia | omega), .none, .int _ _, fun s1 h₁ ob s₁ n₁ g₁ l₁ => ?_⟩
  have e63 := pick_upto vs 63
  rw [show ((63 : Nat) : Int) = 63 from rfl] at e63
  rw [e63] at l₁
  have i₁ := intsAre_take hi 63
  have hnl : (ns.take 63).length ≤ 63 := by simp; (first | lia | omega)
  generalize vs.take 63 = vs' at *
  generalize ns.take 63 = ns' at *
  have hvl' := i₁.length
  have H₁ := H.add s₁ n₁ g₁
  refine T.storeName e H₁ (fun h₂ H₂ => ?_) (hL.of (by first | walk_at "mem" | simp))
  refine T.execs_cons (t_AssignTupN (t_SliceG (T.BinOp ?_)) (sw_scope (env' := envL) X.hsc |>.trans (by kernel_rfl!)))
  walk_at "nm"
  refine t_List ?_ rfl
  refine T.cInt fun z1 => T.cInt fun z2 => ⟨by show 2 ≤ sizeLine; decide, fun zl h₃ oz s₃ n₃ g₃ l₃ => ?_⟩
  have H₃ := H₂.add s₃ n₃ g₃
  refine t_addLists (l₁.isList (H₃.get (by first | walk_at "mem" | simp))) (l₃.isList g₃) (by rw [sizeLine_eq]; simp; (first | lia | omega)) fun ad h₄ oa s₄ n₄ g₄ l₄ => ?_
  have H₄ := H₃.add s₄ n₄ g₄
  refine t_part0 (t_part1 (T.cInt fun t2 => ?_))
  refine ⟨ad, _, _, _, rfl, l₄.isList g₄, by rw [sizeLine_eq]; simp; (first | lia | omega), .none, .int _ _, fun s5 h₅ o5 s₅ n₅ g₅ l₅ => ?_⟩
  have e2 := pick_upto (vs' ++ [Value.int 0 z1, Value.int 0 z2]) 2
  rw [show ((2 : Nat) : Int) = 2 from rfl] at e2
  obtain ⟨fi, se, u1, u2, e3⟩ := padded_two i₁ z1 z2
  rw [e2, e3] at l₅
  have H₅ := H₄.add s₅ n₅ g₅
  refine t_AssignL2 e X.hh H₅ g₅ l₅ (hL.subs (by decide +kernel)) fun h₆ H₆ => ?_
  have H₆' : S h₀ [] env.locals _ [(cK, oK), (cM, oM), (s1, ob)] h₆ := (H₆.perm (l' := [(s5, o5), (ad, oa), (zl, oz), (cK, oK), (cM, oM), (s1, ob)]) (by
    refine .cons _ (.cons _ (.cons _ ?_))
    exact (List.reverse_perm [(cK, oK), (cM, oM), (s1, ob)]))).drop (.cons _ (.cons _ (.cons _ (List.Sublist.refl _)))) (by first | walk_at "mem" | simp)
  refine T.execs_cons (T.Assign_Name (T.BinOp ?_))
  walk_at "nm"
  refine T.cInt fun t3 => T.mod (by decide) fun t4 => ?_
  have f4 := fmod_lt (a := fi) (b := 4) (by (first | lia | omega))
  refine t_storeL e X.CK H₆' iK fun h₇ oK' iK' H₇ => ?_
  refine T.execs_cons (T.Assign_Name (T.BinOp (T.BinOp (T.BinOp ?_))))
  walk_at "nm"
  refine T.cInt fun t5 => T.fdiv (by decide) (by decide) fun t6 => T.cInt fun t7 => T.mod (by decide) fun t8 => T.cInt fun t9 => T.add fun t10 => ?_
  have f3 := fmod_lt (a := fi.fdiv 4) (b := 3) (by (first | lia | omega))
  obtain ⟨kn, hkn⟩ : ∃ kn : Nat, (fi.fdiv 4).fmod 3 + 1 = (kn : Int) := ⟨_, (Int.toNat_of_nonneg (by (first | lia | omega))).symm⟩
  rw [hkn]
  refine t_storeL e X.CM (H₇.perm (l' := [(cM, oM), (cK, oK'), (s1, ob)]) (List.Perm.swap _ _ _)) iM fun h₈ oM' iM' H₈ => ?_
  exact q h₈ _ s1 ob vs' ns' oK' oM' _ se t4 t10 u2 kn iK' f4.1 iM' (by (first | lia | omega)) (by walk_at "look") (by walk_at "look") l₁ i₁ hnl (H₈.perm (List.Perm.swap _ _ _))
inductive Ph (prog : Program) (w : World) (h₀ : Heap) (L : Addr) (m : Str → Option Value) (base : List (Addr × Obj)) (x : Addr) (ns ms : List Int) (va vb : Addr) (fresh : Bool) (h : Heap) : Prop
  | mk (dx : Addr) (od : Obj) (am : Str → Option Value) (lo : List (Addr × Obj)) (x1 : ∀ p ∈ base, p ∈ lo) (x2 : S h₀ [] L m ((dx, od) :: (x, instObj aSM dx) :: lo) h) (x3 : Mat prog w h x dx od am ns ms) (x4 : AmOk am) (x5 : am (Str.ofString "a") = some (.ref va)) (x6 : am (Str.ofString "b") = some (.ref vb)) (x7 : fresh = true → am (Str.ofString "matching_blocks") = some .none)
theorem Mat.turn {x dx : Addr} {od od' : Obj} {am am' : Str → Option Value} {ns ns' ms : List Int} (M : Mat prog w h x dx od am ns ms) (s : Sub [dx] h h') (hd : h'.get? dx = some od') (ia : IsAttrs attrN od' am') (la : ∃ ax vs, am' (Str.ofString "a") = some (.ref ax) ∧ h'.IsList ax (List.toArray vs) ∧ IntsAre vs ns') (hz : ns'.length < 100000) (hb : am' (Str.ofString "b") = am (Str.ofString "b")) (h2 : am' (Str.ofString "b2j") = am (Str.ofString "b2j")) (hj : am' (Str.ofString "bjunk") = am (Str.ofString "bjunk")) : Mat prog w h' x dx od' am' ns' ms where
  ob := s _ _ (by simpa using inst_ne M.ob M.dict M.attrs) M.ob
  dict := hd
  attrs := ia
  la := la
  lb := by
    obtain ⟨ax, vs, h1, h2, h3⟩ := M.lb
    exact ⟨ax, vs, hb.trans h1, h2.at fun o eo => s _ _ (by simpa using list_ne h2 M.dict M.attrs) eo, h3⟩
  b2j := by
    obtain ⟨d, h1, h2'⟩ := M.b2j
    exact ⟨d, h2.trans h1, h2'.keep M.dict M.attrs h1 s⟩
  junk := by
    obtain ⟨dj, led, h1, h2⟩ := M.junk
    refine ⟨dj, led, hj.trans h1, s _ _ ?_ h2⟩
    intro q
    obtain rfl : dj = dx := by simpa using q
    obtain ⟨es, n, e1, _⟩ := M.attrs
    rw [M.dict, e1] at h2
    exact absurd (congrArg Obj.cls (Option.some.inj h2)) (by simp [emptySet])
  za := hz
  zb := M.zb
section
variable {x va vb : Addr} {ns ms : List Int} {base : List (Addr × Obj)} {fresh : Bool}
theorem Ph.gr (X : Lw prog w A h₀ env cK cM) (P : Ph prog w h₀ env.locals m base x ns ms va vb fresh h) : Gr (frag w.params) h := by
  obtain ⟨dx, od, am, lo, _, H, _⟩ := P
  exact X.G.sub H.base
end
end
end Mine

end
section
open PySem PySem.W PyProof.Rows PySem.Calls
set_option Elab.async false
set_option linter.unusedVariables false
set_option maxRecDepth 100000
set_option maxHeartbeats 4000000
namespace Mine
section
variable {prog : Program} {w : World} {A : Around} {h h' h₀ h₁ : Heap} {env : Env} {D : List Addr} {m : Str → Option Value} {l : List (Addr × Obj)}
variable {cK cM : Addr} {x va vb : Addr} {ns ms : List Int} {base : List (Addr × Obj)} {fresh : Bool}
theorem Mat.la_keep {x dx : Addr} {od : Obj} {am : Str → Option Value} (M : Mat prog w h x dx od am ns ms) (s : Sub [dx] h h') : ∃ ax vs, am (Str.ofString "a") = some (.ref ax) ∧ h'.IsList ax (List.toArray vs) ∧ IntsAre vs ns := by
  obtain ⟨ax, vs, h1, h2, h3⟩ := M.la
  exact ⟨ax, vs, h1, h2.at fun o eo => s _ _ (by simpa using list_ne h2 M.dict M.attrs) eo, h3⟩
theorem notHead {L dx a : Addr} {od oa : Obj} {m : Str → Option Value} (H : S h₀ D L m ((dx, od) :: l) h) (ha : (a, oa) ∈ l) : Value.ref a ≠ .ref dx := fun z => by
  cases z
  have := H.nodup
  rw [List.map_cons, List.nodup_cons] at this
  exact this.1 (List.mem_map_of_mem (f := (·.1)) ha)
theorem Ph.ask {a1 a2 : Addr} {o1 o2 : Obj} {one other : List Int} {vs us : List Value} {p q : Nat} {tp tq : Tok} {Q : Value → Heap → Prop} (X : Lw prog w A h₀ env cK cM) (P : Ph prog w h₀ env.locals m base x ns ms va vb true h)
    (b1 : (a1, o1) ∈ base) (l1 : IsLst o1 vs) (i1 : IntsAre vs one) (hz1 : one.length < 63) (b2 : (a2, o2) ∈ base) (l2 : IsLst o2 us) (i2 : IntsAre us other) (hz2 : other.length < 63)
    (hp : p ≤ 8) (hq : q ≤ 8) (hns : ns.length = one.length * p) (hms : ms.length = other.length * q)
    (hB : ∀ ps W, Gd one other one.length other.length 0 0 ps → Blk ns ms 0 ns.length 0 ms.length W → W = ps.map (times p q))
    (qq : ∀ h', Ph prog w h₀ env.locals m base x ns ms va vb false h' → Q (.bool true) h') :
    TC prog w A (.call (.ref at_law_found) ⟨[.ref x, .ref a1, .ref a2, .int (p : Nat) tp, .int (q : Nat) tq], []⟩) h Q := by
  have hd := X.hd
  have hu := X.hu
  obtain ⟨dx, od, am, lo, hb, H, M, ok, ha, hbb, mb⟩ := P
  refine found X.G H.base ((H.own (dx, od) (.head _)).resolve_left (by first | walk_at "mem" | simp)) X.hh (by (first | lia | omega)) (by (first | lia | omega)) M ok (mb rfl) (l1.isList (H.get (.tail _ (.tail _ (hb _ b1))))) i1 hz1 (l2.isList (H.get (.tail _ (.tail _ (hb _ b2))))) i2 hz2 hp hq hns hms hB fun h' od' va' s g ia => ?_
  have e1 : upd am (Str.ofString "matching_blocks") (.ref va') (Str.ofString "a") = am (Str.ofString "a") := upd_next (by decide +kernel) rfl
  obtain ⟨ax, ws, la1, la2, la3⟩ := M.la_keep s
  exact qq h' ⟨dx, od', upd am (Str.ofString "matching_blocks") (.ref va'), lo, hb, H.upd (o' := od') 0 rfl s g, M.turn s g ia ⟨ax, ws, e1.trans la1, la2, la3⟩ M.za (upd_next (by decide +kernel) rfl) (upd_next (by decide +kernel) rfl) (upd_next (by decide +kernel) rfl), ok.upd (by first | walk_at "mem" | simp), e1.trans ha, (upd_next (by decide +kernel) rfl : _ = am (Str.ofString "b")).trans hbb, fun f => by cases f⟩
theorem Ph.seq1 {aw : Addr} {ow oa : Obj} {vw : List Value} {ns' : List Int} {Q : Value → Heap → Prop} (X : Lw prog w A h₀ env cK cM) (P : Ph prog w h₀ env.locals m base x ns ms va vb fresh h)
    (bw : (aw, ow) ∈ base) (lw : IsLst ow vw) (iw : IntsAre vw ns') (hz : ns'.length < 100000) (ba : (va, oa) ∈ base) (hne : aw ≠ va)
    (qq : ∀ h', Ph prog w h₀ env.locals m base x ns' ms aw vb true h' → Q .none h') : TC prog w A (.call (.ref at_SequenceMatcher_set_seq1) ⟨[.ref x, .ref aw], []⟩) h Q := by
  have hd := X.hd
  obtain ⟨dx, od, am, lo, hb, H, M, ok, ha, hbb, mb⟩ := P
  have gw := H.get (.tail _ (.tail _ (hb _ bw)))
  refine set_seq1 X.G H.base ((H.own (dx, od) (.head _)).resolve_left (by first | walk_at "mem" | simp)) (by (first | lia | omega)) M.ob M.dict M.attrs ha rfl (.inr ⟨_, _, _, _, rfl, rfl, hne, gw, H.get (.tail _ (.tail _ (hb _ ba))), by rw [lw.cls.1]; simp⟩) (notHead H (.tail _ (hb _ bw))) (notHead H (.tail _ (hb _ ba))) fun h' od' s g ia => ?_
  have gw' : h'.get? aw = some ow := s _ _ (by
    have := notHead H (a := aw) (.tail _ (hb _ bw))
    simpa using this) gw
  have keep : ∀ y, y ≠ (Str.ofString "a") → y ≠ (Str.ofString "matching_blocks") → y ≠ (Str.ofString "opcodes") → upd (upd (upd am (Str.ofString "a") (.ref aw)) (Str.ofString "matching_blocks") .none) (Str.ofString "opcodes") .none y = am y := fun y n1 n2 n3 => by simp [upd, n1, n2, n3]
  have e1 : upd (upd (upd am (Str.ofString "a") (.ref aw)) (Str.ofString "matching_blocks") .none) (Str.ofString "opcodes") .none (Str.ofString "a") = some (.ref aw) := by walk_at "look"
  exact qq h' ⟨dx, od', _, lo, hb, H.upd (o' := od') 0 rfl s g, M.turn s g ia ⟨aw, vw, e1, lw.isList gw', iw⟩ hz (keep _ (by decide +kernel) (by decide +kernel) (by decide +kernel)) (keep _ (by decide +kernel) (by decide +kernel) (by decide +kernel)) (keep _ (by decide +kernel) (by decide +kernel) (by decide +kernel)),
    ((ok.upd (by first | walk_at "mem" | simp)).upd (by first | walk_at "mem" | simp)).upd (by first | walk_at "mem" | simp), e1, (keep _ (by decide +kernel) (by decide +kernel) (by decide +kernel)).trans hbb, fun _ => by walk_at "look"⟩
theorem Ph.seq2 {aw : Addr} {ow ob : Obj} {vw : List Value} {ms' : List Int} {Q : Value → Heap → Prop} (X : Lw prog w A h₀ env cK cM) (P : Ph prog w h₀ env.locals m base x ns ms va vb fresh h)
    (bw : (aw, ow) ∈ base) (lw : IsLst ow vw) (iw : IntsAre vw ms') (hz : ms'.length < 100000) (bb : (vb, ob) ∈ base) (hne : aw ≠ vb)
    (qq : ∀ h', Ph prog w h₀ env.locals m base x ns ms' va aw true h' → Q .none h') : TC prog w A (.call (.ref at_SequenceMatcher_set_seq2) ⟨[.ref x, .ref aw], []⟩) h Q := by
  have hd := X.hd
  obtain ⟨dx, od, am, lo, hb, H, M, ok, ha, hbb, mb⟩ := P
  have gw := H.get (.tail _ (.tail _ (hb _ bw)))
  refine set_seq2 X.G H.base ((H.own (dx, od) (.head _)).resolve_left (by first | walk_at "mem" | simp)) X.hh (by (first | lia | omega)) M.ob M.dict M.attrs hbb rfl (.inr ⟨_, _, _, _, rfl, rfl, hne, gw, H.get (.tail _ (.tail _ (hb _ bb))), by rw [lw.cls.1]; simp⟩) (notHead H (.tail _ (hb _ bb))) ok.j ok.aj ok.m3 (lw.isList gw) iw hz fun h' od' d dj dp led s g ia B gj => ?_
  have gw' : h'.get? aw = some ow := s _ _ (by
    have := notHead H (a := aw) (.tail _ (hb _ bw))
    simpa using this) gw
  obtain ⟨ax, ws, la1, la2, la3⟩ := M.la_keep s
  have H' := H.upd (o' := od') 0 rfl s g
  have e1 : am2 am (.ref aw) d dj dp (Str.ofString "a") = am (Str.ofString "a") := by unfold am2; simp only [upd]; rw [if_neg (by decide +kernel), if_neg (by decide +kernel), if_neg (by decide +kernel), if_neg (by decide +kernel), if_neg (by decide +kernel), if_neg (by decide +kernel), if_neg (by decide +kernel)]
  exact qq h' ⟨dx, od', _, lo, hb, H', ⟨H'.get (.tail _ (.head _)), g, ia, ⟨ax, ws, e1.trans la1, la2, la3⟩, ⟨aw, vw, by unfold am2; walk_at "look", lw.isList gw', iw⟩, ⟨d, by unfold am2; walk_at "look", B⟩, ⟨dj, led, by unfold am2; walk_at "look", gj⟩, M.za, hz⟩, ok.am2, e1.trans ha, by unfold am2; walk_at "look", fun _ => by unfold am2; walk_at "look"⟩
theorem Ph.seqs {a b : Addr} {oa ob oa' ob' : Obj} {wa wb : List Value} {ns' ms' : List Int} {Q : Value → Heap → Prop} (X : Lw prog w A h₀ env cK cM) (P : Ph prog w h₀ env.locals m base x ns ms va vb fresh h)
    (ba : (a, oa) ∈ base) (la : IsLst oa wa) (ia : IntsAre wa ns') (hza : ns'.length < 100000) (bb : (b, ob) ∈ base) (lb : IsLst ob wb) (ib : IntsAre wb ms') (hzb : ms'.length < 100000) (bva : (va, oa') ∈ base) (bvb : (vb, ob') ∈ base) (hna : a ≠ va) (hnb : b ≠ vb)
    (qq : ∀ h', Ph prog w h₀ env.locals m base x ns' ms' a b true h' → Q .none h') : TC prog w A (.call (.ref at_SequenceMatcher_set_seqs) ⟨[.ref x, .ref a, .ref b], []⟩) h Q := by
  have hd := X.hd
  obtain ⟨dx, od, am, lo, hb, H, M, ok, ha, hbb, mb⟩ := P
  have ga := H.get (.tail _ (.tail _ (hb _ ba)))
  have gb := H.get (.tail _ (.tail _ (hb _ bb)))
  refine set_seqs X.G H.base ((H.own (dx, od) (.head _)).resolve_left (by first | walk_at "mem" | simp)) X.hh (by (first | lia | omega)) M.ob M.dict M.attrs ha rfl (.inr ⟨_, _, _, _, rfl, rfl, hna, ga, H.get (.tail _ (.tail _ (hb _ bva))), by rw [la.cls.1]; simp⟩) (notHead H (.tail _ (hb _ bva))) hbb rfl (.inr ⟨_, _, _, _, rfl, rfl, hnb, gb, H.get (.tail _ (.tail _ (hb _ bvb))), by rw [lb.cls.1]; simp⟩) (notHead H (.tail _ (hb _ bvb))) ok.j ok.aj ok.m1 ok.m2 ok.m3 (la.isList ga) (lb.isList gb) ib hzb fun h' od' d dj dp led s g ia' B gj => ?_
  have ga' : h'.get? a = some oa := s _ _ (by
    have := notHead H (a := a) (.tail _ (hb _ ba))
    simpa using this) ga
  have gb' : h'.get? b = some ob := s _ _ (by
    have := notHead H (a := b) (.tail _ (hb _ bb))
    simpa using this) gb
  have H' := H.upd (o' := od') 0 rfl s g
  refine qq h' ⟨dx, od', _, lo, hb, H', ⟨H'.get (.tail _ (.head _)), g, ia', ⟨a, wa, by unfold am2; walk_at "look", la.isList ga', ia⟩, ⟨b, wb, by unfold am2; walk_at "look", lb.isList gb', ib⟩, ⟨d, by unfold am2; walk_at "look", B⟩, ⟨dj, led, by unfold am2; walk_at "look", gj⟩, hza, hzb⟩, AmOk.am2 (((ok.upd (by first | walk_at "mem" | simp)).upd (by first | walk_at "mem" | simp)).upd (by first | walk_at "mem" | simp)), by unfold am2; walk_at "look", by unfold am2; walk_at "look", fun _ => by unfold am2; walk_at "look"⟩
end
end Mine

end
section
open PySem PySem.W PyProof.Rows PySem.Calls
set_option Elab.async false
set_option linter.unusedVariables false
set_option maxRecDepth 100000
set_option maxHeartbeats 4000000
namespace Mine
section
variable {prog : Program} {w : World} {A : Around} {h h' h₀ h₁ : Heap} {env : Env} {D : List Addr} {m : Str → Option Value} {l : List (Addr × Obj)}
variable {cK cM : Addr}
structure Ten (m : Str → Option Value) (base : List (Addr × Obj)) (cM x a1 a2 aw sp : Addr) (oM o1 o2 ow os : Obj) (v1 v2 vw vs : List Value) (one other : List Int) (F : Int) (k : Nat) (tF tk : Tok) : Prop where
  b0 : (cM, oM) ∈ base
  b1 : (a1, o1) ∈ base
  b2 : (a2, o2) ∈ base
  b3 : (aw, ow) ∈ base
  b4 : (sp, os) ∈ base
  iM : IsCel oM (some (.int (k : Nat) tk))
  hk : 1 ≤ k ∧ k ≤ 3
  l1 : IsLst o1 v1
  l2 : IsLst o2 v2
  lw : IsLst ow vw
  ls : IsLst os vs
  i1 : IntsAre v1 one
  i2 : IntsAre v2 other
  iw : IntsAre vw (spreadL one F k)
  is : IntsAre vs (spreadL other (-F) k)
  z1 : one.length ≤ 61
  z2 : other.length ≤ 61
  n1 : Inner F one
  n2 : Inner F other
  hF : 0 < F
  c1 : m (Str.ofString "one") = some (.ref a1)
  c2 : m (Str.ofString "other") = some (.ref a2)
  c3 : m (Str.ofString "foreign") = some (.int F tF)
  c4 : m (Str.ofString "wide") = some (.ref aw)
  c5 : m (Str.ofString "matcher") = some (.ref x)
  d1 : aw ≠ a1
  d2 : a2 ≠ sp
  d3 : aw ≠ a2
theorem spread_small {one : List Int} {F : Int} {k : Nat} (hz : one.length ≤ 61) (hk : k ≤ 3) : (spreadL one F k).length ≤ 244 := by
  rw [spreadL_len]
  exact Nat.mul_le_mul hz (by (first | lia | omega) : k + 1 ≤ 4)
theorem law_first {a1 a2 : Addr} {o1 o2 oM : Obj} {v1 v2 : List Value} {one other : List Int} {F : Int} {k : Nat} {tF tk : Tok} (X : Lw prog w A h₀ env cK cM) (iM : IsCel oM (some (.int (k : Nat) tk))) (hk : 1 ≤ k ∧ k ≤ 3) (l1 : IsLst o1 v1) (i1 : IntsAre v1 one) (z1 : one.length ≤ 61) (l2 : IsLst o2 v2) (i2 : IntsAre v2 other) (z2 : other.length ≤ 61) (n1 : Inner F one) (n2 : Inner F other) (hF : 0 < F)
    (c1 : m (Str.ofString "one") = some (.ref a1)) (c2 : m (Str.ofString "other") = some (.ref a2)) (c3 : m (Str.ofString "foreign") = some (.int F tF)) (H : S h₀ [] env.locals m ((cM, oM) :: (a1, o1) :: (a2, o2) :: l) h) {Q : Flow → Heap → Prop}
    (q : ∀ h' m' base x aw sp ow os vw vs, Ten m' base cM x a1 a2 aw sp oM o1 o2 ow os v1 v2 vw vs one other F k tF tk → Ph prog w h₀ env.locals m' base x one (spreadL other (-F) k) a1 sp true h' → T prog w A (execs (lawB.drop 10) env) h' Q) : T prog w A (execs (lawB.drop 8) env) h Q := by
  have e := X.e
  have hL := X.hL
  have hd := X.hd
  have hu := X.hu
  refine T.execs_cons (T.Assign_Name (T.Call_Name ?_))
  refine T.global (v := .ref at_law_spread) e (X.G.sub H.base) (by kernel_rfl!) ?_ (X.kg _ (by first | walk_at "mem" | simp)) (by decide +kernel)
  refine T.callWith ?_ rfl
  walk_at "nm"
  walk_at "nm"
  refine t_NameL e X.CM H (.head _) iM ?_ (by decide +kernel)
  refine ⟨Keeps.frag (X.G.sub H.base).k (by kernel_rfl!), T.call ?_⟩
  refine spread (X.G.sub H.base) X.hh (by (first | lia | omega)) (l1.isList (H.get (by first | walk_at "mem" | simp))) i1 (by (first | lia | omega)) (by (first | lia | omega)) fun h₁ aw ow vw E₁ lw iw => ?_
  have H₁ := H.ext E₁
  have new₁ : ∀ {b o}, h.get? b = some o → aw ≠ b := fun eb z => by
    have := E₁.new (aw, ow) (by first | walk_at "mem" | simp)
    rw [z, eb] at this; cases this
  refine T.storeName e H₁ (fun h₂ H₂ => ?_) (hL.of (by first | walk_at "mem" | simp))
  refine T.execs_cons (T.Assign_Name (T.Call_Name ?_))
  refine T.global (v := .ref aSM) e (X.G.sub H₂.base) (by kernel_rfl!) ?_ (X.kg _ (by first | walk_at "mem" | simp)) (by decide +kernel)
  refine T.callWith ?_ rfl
  refine T.cNone ?_
  walk_at "nm"
  refine T.Call_Name ?_
  refine T.global (v := .ref at_law_spread) e (X.G.sub H₂.base) (by kernel_rfl!) ?_ (X.kg _ (by first | walk_at "mem" | simp)) (by decide +kernel)
  refine T.callWith ?_ rfl
  walk_at "nm"
  refine T.neg (a := F) (t := tF) ?_
  walk_at "nm"
  refine ⟨rfl, fun u => ?_⟩
  refine t_NameL e X.CM H₂ (by first | walk_at "mem" | simp) iM ?_ (by decide +kernel)
  refine ⟨Keeps.frag (X.G.sub H₂.base).k (by kernel_rfl!), T.call ?_⟩
  refine spread (X.G.sub H₂.base) X.hh (by (first | lia | omega)) (l2.isList (H₂.get (by first | walk_at "mem" | simp))) i2 (by (first | lia | omega)) (by (first | lia | omega)) fun h₃ sp os vs E₃ ls is => ?_
  have H₃ := H₂.ext E₃
  have new₃ : ∀ {b o}, h₂.get? b = some o → b ≠ sp := fun eb z => by
    have := E₃.new (sp, os) (by first | walk_at "mem" | simp)
    rw [← z, eb] at this; cases this
  have zs := spread_small (one := other) (F := -F) z2 hk.2
  refine T.cBool ?_
  refine ⟨Keeps.frag (X.G.sub H₃.base).k (by kernel_rfl!), ?_⟩
  refine make_matcher X.G H₃ X.hh (by (first | lia | omega)) (l1.isList (H₃.get (by first | walk_at "mem" | simp))) (ls.isList (H₃.get (by first | walk_at "mem" | simp))) is (by (first | lia | omega)) fun x dx h₄ od d dj dp led H₄ ia B4 gj k₄ => ?_
  have M₄ : Mat prog w h₄ x dx od (am0 a1 sp d dj dp) one (spreadL other (-F) k) := ⟨H₄.get (by first | walk_at "mem" | simp), H₄.get (by first | walk_at "mem" | simp), ia, ⟨a1, v1, by unfold am0 am2; walk_at "look", l1.isList (H₄.get (by first | walk_at "mem" | simp)), i1⟩, ⟨sp, vs, by unfold am0 am2; walk_at "look", ls.isList (H₄.get (by first | walk_at "mem" | simp)), is⟩, ⟨d, by unfold am0 am2; walk_at "look", B4⟩, ⟨dj, led, by unfold am0 am2; walk_at "look", gj⟩, by (first | lia | omega), by (first | lia | omega)⟩
  have ok₄ : AmOk (am0 a1 sp d dj dp) := AmOk.am0
  have mb₄ : am0 a1 sp d dj dp (Str.ofString "matching_blocks") = some .none := by unfold am0 am2; walk_at "look"
  have ma₄ : am0 a1 sp d dj dp (Str.ofString "a") = some (.ref a1) := by unfold am0 am2; walk_at "look"
  have mbb₄ : am0 a1 sp d dj dp (Str.ofString "b") = some (.ref sp) := by unfold am0 am2; walk_at "look"
  generalize am0 a1 sp d dj dp = am₄ at *
  refine t_storeK e H₄ (fun h₅ s₅ H₅ => ?_) (hL.of (by first | walk_at "mem" | simp))
  have xL : x ≠ env.locals := fun z => H₄.offL (z ▸ List.mem_map_of_mem (f := (·.1)) (a := (x, instObj aSM dx)) (by first | walk_at "mem" | simp))
  have dL : dx ≠ env.locals := fun z => H₄.offL (z ▸ List.mem_map_of_mem (f := (·.1)) (a := (dx, od)) (by first | walk_at "mem" | simp))
  have M₅ := M₄.keepL (y := (Str.ofString "one")) H₄.ns (by walk_at "look") xL dL s₅
  have H₅' := H₅.perm (List.Perm.swap _ _ _)
  refine q h₅ _ [(cM, oM), (a1, o1), (a2, o2), (aw, ow), (sp, os)] x aw sp ow os vw vs ⟨by simp, by simp, by simp, by simp, by simp, iM, hk, l1, l2, lw, ls, i1, i2, iw, is, z1, z2, n1, n2, hF, by walk_at "look", by walk_at "look", by walk_at "look", by walk_at "look", upd_here, ?_, ?_, ?_⟩ ⟨dx, od, am₄, _, ?_, H₅', M₅, ok₄, ma₄, mbb₄, fun _ => mb₄⟩
  · exact new₁ (H.get (o := o1) (by first | walk_at "mem" | simp))
  · exact new₃ (H₂.get (o := o2) (by first | walk_at "mem" | simp))
  · exact new₁ (H.get (o := o2) (by first | walk_at "mem" | simp))
  · intro p hp
    simp only [List.mem_cons, List.not_mem_nil, or_false] at hp
    rcases hp with rfl | rfl | rfl | rfl | rfl <;> simp
section
variable {x a1 a2 aw sp va vb : Addr} {oM o1 o2 ow os : Obj} {v1 v2 vw vs : List Value} {one other ns ms : List Int} {F : Int} {k : Nat} {tF tk : Tok} {base : List (Addr × Obj)} {fresh : Bool}
theorem Ph.frame (P : Ph prog w h₀ env.locals m base x ns ms va vb fresh h) : ∃ l, S h₀ [] env.locals m l h ∧ (∀ p ∈ base, p ∈ l) := by
  obtain ⟨dx, od, am, lo, hb, H, M, ok, ha, hbb, mb⟩ := P
  exact ⟨_, H, fun p hp => .tail _ (.tail _ (hb p hp))⟩
theorem Ph.meth {name : Str} {pl : Sem Bool} {Q : Value × List Value → Heap → Prop} (X : Lw prog w A h₀ env cK cM) (P : Ph prog w h₀ env.locals m base x ns ms va vb fresh h) (hm : ∀ am, AmOk am → am name = none)
    (go : ∀ dx od am, Inst h x aSM dx od → IsAttrs attrN od am → am name = none → T prog w A (getMethod (.ref x) name pl) h Q) : T prog w A (getMethod (.ref x) name pl) h Q := by
  obtain ⟨dx, od, am, lo, hb, H, M, ok, ha, hbb, mb⟩ := P
  exact go dx od am ⟨M.ob, M.dict⟩ M.attrs (hm am ok)
theorem law_second (X : Lw prog w A h₀ env cK cM) (Y : Ten m base cM x a1 a2 aw sp oM o1 o2 ow os v1 v2 vw vs one other F k tF tk) (P : Ph prog w h₀ env.locals m base x one (spreadL other (-F) k) a1 sp true h) {Q : Flow → Heap → Prop}
    (q : ∀ h', Ph prog w h₀ env.locals m base x (spreadL one F k) (spreadL other (-F) k) aw sp false h' → T prog w A (execs (lawB.drop 13) env) h' Q) : T prog w A (execs (lawB.drop 10) env) h Q := by
  have e := X.e
  have hL := X.hL
  have c1 := Y.c1
  have c2 := Y.c2
  have c4 := Y.c4
  have c5 := Y.c5
  have hk := Y.hk
  have z1 := Y.z1
  have z2 := Y.z2
  have hq : k + 1 ≤ 8 := by (first | lia | omega)
  have ek : (k : Int) + 1 = ((k + 1 : Nat) : Int) := by (first | lia | omega)
  have zw := spread_small (one := one) (F := F) z1 hk.2
  obtain ⟨l, H, hb⟩ := P.frame
  refine T.execs_cons (T.If (t_isTrue_not (t_isTrue_plain (T.Call_Name ?_))))
  refine T.global (v := .ref at_law_found) e (P.gr X) (by kernel_rfl!) ?_ (X.kg _ (by first | walk_at "mem" | simp)) (by decide +kernel)
  refine T.callWith ?_ rfl
  walk_at "nm"
  walk_at "nm"
  walk_at "nm"
  refine T.cInt fun t1 => T.BinOp ?_
  refine t_NameL e X.CM H (hb _ Y.b0) Y.iM ?_ (by decide +kernel)
  refine T.cInt fun t2 => T.add fun t3 => ?_
  rw [ek]
  refine ⟨Keeps.frag (P.gr X).k (by kernel_rfl!), T.call ?_⟩
  refine P.ask (p := 1) (q := k + 1) X Y.b1 Y.l1 Y.i1 (by (first | lia | omega)) Y.b2 Y.l2 Y.i2 (by (first | lia | omega)) (by (first | lia | omega)) hq (by (first | lia | omega)) spreadL_len (fun ps W g B => ask1 Y.n1 Y.n2 Y.hF hk.1 g B) fun h₁ P₁ => ?_
  refine T.truthy_bool ?_
  rw [if_neg (by first | walk_at "mem" | simp)]
  refine T.execs_nil ?_
  clear H hb
  obtain ⟨l, H, hb⟩ := P₁.frame
  refine T.execs_cons (T.Expr (T.Call_method ?_) e.inter)
  walk_at "nm"
  refine P₁.meth X (fun am ok => ok.m1) fun dx od am I ia hm => ?_
  refine T.getMeth (f := at_SequenceMatcher_set_seq1) (plainSM w.params) (P₁.gr X).k I ia hm (by kernel_rfl!) (by kernel_rfl!) ?_
  refine T.callWith ?_ rfl
  walk_at "nm"
  refine ⟨Keeps.frag (P₁.gr X).k (by kernel_rfl!), T.call ?_⟩
  refine P₁.seq1 X Y.b3 Y.lw Y.iw (by (first | lia | omega)) Y.b1 Y.d1 fun h₂ P₂ => ⟨(fun b q => by cases q), ?_⟩
  clear H hb
  obtain ⟨l, H, hb⟩ := P₂.frame
  refine T.execs_cons (T.If (t_isTrue_not (t_isTrue_plain (T.Call_Name ?_))))
  refine T.global (v := .ref at_law_found) e (P₂.gr X) (by kernel_rfl!) ?_ (X.kg _ (by first | walk_at "mem" | simp)) (by decide +kernel)
  refine T.callWith ?_ rfl
  walk_at "nm"
  walk_at "nm"
  walk_at "nm"
  refine T.BinOp ?_
  refine t_NameL e X.CM H (hb _ Y.b0) Y.iM ?_ (by decide +kernel)
  refine T.cInt fun t2 => T.add fun t3 => ?_
  rw [ek]
  refine T.BinOp ?_
  refine t_NameL e X.CM H (hb _ Y.b0) Y.iM ?_ (by decide +kernel)
  refine T.cInt fun t4 => T.add fun t5 => ?_
  rw [ek]
  refine ⟨Keeps.frag (P₂.gr X).k (by kernel_rfl!), T.call ?_⟩
  refine P₂.ask (p := k + 1) (q := k + 1) X Y.b1 Y.l1 Y.i1 (by (first | lia | omega)) Y.b2 Y.l2 Y.i2 (by (first | lia | omega)) hq hq spreadL_len spreadL_len (fun ps W g B => ask2 Y.n1 Y.n2 Y.hF hk.1 g B) fun h₃ P₃ => ?_
  refine T.truthy_bool ?_
  rw [if_neg (by first | walk_at "mem" | simp)]
  exact T.execs_nil (q h₃ P₃)
theorem law_third (X : Lw prog w A h₀ env cK cM) (Y : Ten m base cM x a1 a2 aw sp oM o1 o2 ow os v1 v2 vw vs one other F k tF tk) (P : Ph prog w h₀ env.locals m base x (spreadL one F k) (spreadL other (-F) k) aw sp fresh h) {Q : Flow → Heap → Prop}
    (q : ∀ h', Ph prog w h₀ env.locals m base x other (spreadL one F k) a2 aw false h' → T prog w A (execs (lawB.drop 17) env) h' Q) : T prog w A (execs (lawB.drop 13) env) h Q := by
  have e := X.e
  have hL := X.hL
  have c1 := Y.c1
  have c2 := Y.c2
  have c4 := Y.c4
  have c5 := Y.c5
  have hk := Y.hk
  have z1 := Y.z1
  have z2 := Y.z2
  have hq : k + 1 ≤ 8 := by (first | lia | omega)
  have ek : (k : Int) + 1 = ((k + 1 : Nat) : Int) := by (first | lia | omega)
  have zw := spread_small (one := one) (F := F) z1 hk.2
  obtain ⟨l, H, hb⟩ := P.frame
  refine T.execs_cons (T.Expr (T.Call_method ?_) e.inter)
  walk_at "nm"
  refine P.meth X (fun am ok => ok.m2) fun dx od am I ia hm => ?_
  refine T.getMeth (f := at_SequenceMatcher_set_seq2) (plainSM w.params) (P.gr X).k I ia hm (by kernel_rfl!) (by kernel_rfl!) ?_
  refine T.callWith ?_ rfl
  walk_at "nm"
  refine ⟨Keeps.frag (P.gr X).k (by kernel_rfl!), T.call ?_⟩
  refine P.seq2 X Y.b2 Y.l2 Y.i2 (by (first | lia | omega)) Y.b4 Y.d2 fun h₁ P₁ => ⟨(fun b q => by cases q), ?_⟩
  clear H hb
  obtain ⟨l, H, hb⟩ := P₁.frame
  refine T.execs_cons (T.If (t_isTrue_not (t_isTrue_plain (T.Call_Name ?_))))
  refine T.global (v := .ref at_law_found) e (P₁.gr X) (by kernel_rfl!) ?_ (X.kg _ (by first | walk_at "mem" | simp)) (by decide +kernel)
  refine T.callWith ?_ rfl
  walk_at "nm"
  walk_at "nm"
  walk_at "nm"
  refine T.BinOp ?_
  refine t_NameL e X.CM H (hb _ Y.b0) Y.iM ?_ (by decide +kernel)
  refine T.cInt fun t2 => T.add fun t3 => ?_
  rw [ek]
  refine T.cInt fun t1 => ?_
  refine ⟨Keeps.frag (P₁.gr X).k (by kernel_rfl!), T.call ?_⟩
  refine P₁.ask (p := k + 1) (q := 1) X Y.b1 Y.l1 Y.i1 (by (first | lia | omega)) Y.b2 Y.l2 Y.i2 (by (first | lia | omega)) hq (by (first | lia | omega)) spreadL_len (by (first | lia | omega)) (fun ps W g B => ask3 Y.n1 Y.n2 Y.hF hk.1 g B) fun h₂ P₂ => ?_
  refine T.truthy_bool ?_
  rw [if_neg (by first | walk_at "mem" | simp)]
  refine T.execs_nil ?_
  clear H hb
  obtain ⟨l, H, hb⟩ := P₂.frame
  refine T.execs_cons (T.Expr (T.Call_method ?_) e.inter)
  walk_at "nm"
  refine P₂.meth X (fun am ok => ok.m6) fun dx od am I ia hm => ?_
  refine T.getMeth (f := at_SequenceMatcher_set_seqs) (plainSM w.params) (P₂.gr X).k I ia hm (by kernel_rfl!) (by kernel_rfl!) ?_
  refine T.callWith ?_ rfl
  walk_at "nm"
  walk_at "nm"
  refine ⟨Keeps.frag (P₂.gr X).k (by kernel_rfl!), T.call ?_⟩
  refine P₂.seqs X Y.b2 Y.l2 Y.i2 (by (first | lia | omega)) Y.b3 Y.lw Y.iw (by (first | lia | omega)) Y.b3 Y.b2 Y.d3.symm Y.d3 fun h₃ P₃ => ⟨(fun b q => by cases q), ?_⟩
  clear H hb
  obtain ⟨l, H, hb⟩ := P₃.frame
  refine T.execs_cons (T.If (t_isTrue_not (t_isTrue_plain (T.Call_Name ?_))))
  refine T.global (v := .ref at_law_found) e (P₃.gr X) (by kernel_rfl!) ?_ (X.kg _ (by first | walk_at "mem" | simp)) (by decide +kernel)
  refine T.callWith ?_ rfl
  walk_at "nm"
  walk_at "nm"
  walk_at "nm"
  refine T.cInt fun t4 => T.BinOp ?_
  refine t_NameL e X.CM H (hb _ Y.b0) Y.iM ?_ (by decide +kernel)
  refine T.cInt fun t5 => T.add fun t6 => ?_
  rw [ek]
  refine ⟨Keeps.frag (P₃.gr X).k (by kernel_rfl!), T.call ?_⟩
  refine P₃.ask (p := 1) (q := k + 1) X Y.b2 Y.l2 Y.i2 (by (first | lia | omega)) Y.b1 Y.l1 Y.i1 (by (first | lia | omega)) (by (first | lia | omega)) hq (by (first | lia | omega)) spreadL_len (fun ps W g B => ask4 Y.n1 Y.n2 Y.hF hk.1 g B) fun h₄ P₄ => ?_
  refine T.truthy_bool ?_
  rw [if_neg (by first | walk_at "mem" | simp)]
  exact T.execs_nil (q h₄ P₄)
end
end
end Mine

end
section
open PySem PySem.W PyProof.Rows PySem.Calls
set_option Elab.async false
set_option linter.unusedVariables false
set_option maxRecDepth 100000
set_option maxHeartbeats 4000000
namespace Mine
section
variable {prog : Program} {w : World} {A : Around} {h h' h₀ h₁ : Heap} {env : Env} {D : List Addr} {m : Str → Option Value} {l : List (Addr × Obj)}
variable {cK cM : Addr}
section
variable {x a1 a2 aw sp va vb : Addr} {oM o1 o2 ow os : Obj} {v1 v2 vw vs : List Value} {one other ns ms : List Int} {F : Int} {k : Nat} {tF tk : Tok} {base : List (Addr × Obj)} {fresh : Bool}
theorem Ph.grow (P : Ph prog w h₀ env.locals m base x ns ms va vb fresh h) (hx : m (Str.ofString "matcher") = some (.ref x)) {R : Prop}
    (r : ∀ l, S h₀ [] env.locals m l h → (∀ p ∈ base, p ∈ l) → (∀ {m' : Str → Option Value} {l' : List (Addr × Obj)} {h' : Heap} {base' : List (Addr × Obj)}, S h₀ [] env.locals m' (l' ++ l) h' → (∀ b o, b ≠ env.locals → h.get? b = some o → h'.get? b = some o) → (∀ p ∈ base', p ∈ l' ∨ p ∈ base) → Ph prog w h₀ env.locals m' base' x ns ms va vb fresh h') → R) : R := by
  obtain ⟨dx, od, am, lo, hb, H, M, ok, ha, hbb, mb⟩ := P
  refine r _ H (fun p hp => .tail _ (.tail _ (hb p hp))) fun {m' l' h' base'} H' k hb' => ?_
  have nx : x ≠ env.locals := fun z => H.offL (z ▸ List.mem_map_of_mem (f := (·.1)) (a := (x, instObj aSM dx)) (by first | walk_at "mem" | simp))
  have nd : dx ≠ env.locals := fun z => H.offL (z ▸ List.mem_map_of_mem (f := (·.1)) (a := (dx, od)) (by first | walk_at "mem" | simp))
  have M' := M.keepL (y := (Str.ofString "matcher")) H.ns hx nx nd fun b o hn eb => k b o (by simpa using hn) eb
  have H'' : S h₀ [] env.locals m' ((dx, od) :: (x, instObj aSM dx) :: (l' ++ lo)) h' := H'.perm (List.perm_append_comm_assoc l' [(dx, od), (x, instObj aSM dx)] lo)
  exact ⟨dx, od, am, l' ++ lo, fun p hp => List.mem_append.mpr ((hb' p hp).imp id (hb p)), H'', M', ok, ha, hbb, mb⟩
theorem closureG1 {scope : Scope} {p q x : Str} {cx : Addr} (hn : scope.names = [(Str.ofString ".0", .local), (p, .local), (q, .local), (x, .free)]) (Cx : Cel env x cx) : closureFor scope env = pure [(x, cx)] := by
  simp [closureFor, hn, cellOf, Cx.look]
theorem bits_k {k : Nat} (hk : k ≤ 3) : Builtin.Int.intBits ((k : Int) + 1) ≤ 64 := by
  have := bits_small (p := k + 1) (by (first | lia | omega))
  rwa [show ((k + 1 : Nat) : Int) = (k : Int) + 1 by (first | lia | omega)] at this
theorem law_blocks {du : Addr} {oD : Obj} {vd : List Value} {famD : List (Addr × Obj)} {ps : List (Nat × Nat)} (X : Lw prog w A h₀ env cK cM) (n1 : Inner F one) (n2 : Inner F other) (hF : 0 < F) (hk : 1 ≤ k ∧ k ≤ 3) (z1 : one.length ≤ 61) (z2 : other.length ≤ 61) (c5 : m (Str.ofString "matcher") = some (.ref x)) (c6 : m (Str.ofString "due") = some (.ref du))
    (P : Ph prog w h₀ env.locals m base x (one ++ [F + 1, F + 2]) (spreadL other (-F) k ++ [F + 1, F + 2]) va vb true h) (bD : (du, oD) ∈ base) (lD : IsLst oD vd) (bF : ∀ p ∈ famD, p ∈ base)
    (tD : TupsIn famD vd (ps.map (fun x => (x.1, x.2 * (k + 1), 1)) ++ [(one.length, other.length * (k + 1), 2), (one.length + 2, other.length * (k + 1) + 2, 0)])) (gd : Gd one other one.length other.length 0 0 ps) {Q : Flow → Heap → Prop}
    (q : ∀ h', Sub [] h₀ h' → Q (.ret (.bool true)) h') : T prog w A (execs (lawB.drop 21) env) h Q := by
  have e := X.e
  have hL := X.hL
  have hd := X.hd
  have hu := X.hu
  have zs := spread_small (one := other) (F := -F) z2 hk.2
  have hpl := gd.len
  obtain ⟨dx, od, am, lo, hb, H, M, ok, ha, hbb, mb⟩ := P
  refine T.execs_cons (T.Return (T.Compare ?_))
  refine t_compId (env₀ := envL) e X.hh (by decide +kernel) (by decide +kernel) (by decide +kernel) (by decide +kernel) (by decide +kernel) (by decide +kernel) X.hsc (by kernel_rfl!) (by decide +kernel) (by kernel_rfl!) (by kernel_rfl!) (by kernel_rfl!) (T.Call_method ?_)
  walk_at "nm"
  refine T.getMeth (f := at_SequenceMatcher_get_matching_blocks) (plainSM w.params) (X.G.sub H.base).k ⟨M.ob, M.dict⟩ M.attrs ok.m4 (by kernel_rfl!) (by kernel_rfl!) ?_
  refine T.callWith ⟨Keeps.frag (X.G.sub H.base).k (by kernel_rfl!), T.call ?_⟩ rfl
  have eW : ∀ W, Blk (one ++ [F + 1, F + 2]) (spreadL other (-F) k ++ [F + 1, F + 2]) 0 (one ++ [F + 1, F + 2]).length 0 (spreadL other (-F) k ++ [F + 1, F + 2]).length W → W = _ := fun W B => ask5 n1 n2 hF hk.1 gd B
  refine blocks X.G H.base ((H.own (dx, od) (.head _)).resolve_left (by first | walk_at "mem" | simp)) X.hh (by (first | lia | omega)) (by (first | lia | omega)) M (mb rfl) ok.m5 (by simp; (first | lia | omega)) (fun W hW => by rw [eW W hW]; simp; (first | lia | omega)) fun h₉ od₉ va₉ o₉ vs₉ W s₉ g₉ ia₉ n₉ gv l₉ B₉ mt => ?_
  have H₉ := H.upd (o' := od₉) 0 rfl s₉ g₉
  have e9 := eW W B₉
  rw [B₉.merge] at mt
  have hml : W.length ≤ 62 := by rw [e9]; simp; (first | lia | omega)
  refine ⟨va₉, vs₉, _, rfl, l₉.isList gv, mt, X.G.sub H₉.base, by simp; (first | lia | omega), fun acc2 oa2 va2 fam2 h₁₀ X₁₀ la ta => ?_⟩
  have H₁₀ := H₉.ext X₁₀
  have mem : ∀ {p}, p ∈ base → h₁₀.get? p.1 = some p.2 := fun {p} hp => H₁₀.led p (List.mem_append_right _ (.tail _ (.tail _ (hb p hp))))
  walk_at "nm"
  refine t_eqTups (by (first | lia | omega)) (la.isList (H₁₀.get (by first | walk_at "mem" | simp))) (lD.isList (mem bD)) (ta.are fun p hp => H₁₀.led p (by simp [hp])) (tD.are fun p hp => mem (bF p hp)) ?_
  rw [decide_eq_true (by rw [e9]; simp [spreadL_len])]
  exact q h₁₀ H₁₀.base
theorem law_due (X : Lw prog w A h₀ env cK cM) (n1 : Inner F one) (n2 : Inner F other) (hF : 0 < F) (hk : 1 ≤ k ∧ k ≤ 3) (z1 : one.length ≤ 61) (z2 : other.length ≤ 61) (c1 : m (Str.ofString "one") = some (.ref a1)) (c2 : m (Str.ofString "other") = some (.ref a2)) (c5 : m (Str.ofString "matcher") = some (.ref x)) (b0 : (cM, oM) ∈ base) (b1 : (a1, o1) ∈ base) (b2 : (a2, o2) ∈ base) (iM : IsCel oM (some (.int (k : Nat) tk))) (l1 : IsLst o1 v1) (i1 : IntsAre v1 one) (l2 : IsLst o2 v2) (i2 : IntsAre v2 other)
    (P : Ph prog w h₀ env.locals m base x (one ++ [F + 1, F + 2]) (spreadL other (-F) k ++ [F + 1, F + 2]) va vb true h) {Q : Flow → Heap → Prop}
    (q : ∀ h', Sub [] h₀ h' → Q (.ret (.bool true)) h') : T prog w A (execs (lawB.drop 19) env) h Q := by
  have e := X.e
  have hL := X.hL
  have hd := X.hd
  have hu := X.hu
  have hv1 := i1.length
  have hv2 := i2.length
  refine P.grow c5 fun l H hb grow => ?_
  refine T.execs_cons (T.Assign_Name (T.BinOp (T.Call_Name ?_)))
  refine T.builtin (v := .builtin "len") e (X.G.sub H.base) (by kernel_rfl!) (by kernel_rfl!) ?_ (X.kg _ (by first | walk_at "mem" | simp)) (by decide +kernel) (by decide +kernel)
  refine T.callWith ?_ rfl
  walk_at "nm"
  refine ⟨Keeps.builtin, t_len (l2.isList (H.get (hb _ b2))) (by (first | lia | omega)) fun t1 => ?_⟩
  refine T.BinOp ?_
  refine t_NameL e X.CM H (hb _ b0) iM ?_ (by decide +kernel)
  refine T.cInt fun t2 => T.add fun t3 => T.mul (bits_k hk.2) fun t4 => ?_
  have es : (v2.length : Int) * ((k : Int) + 1) = ((other.length * (k + 1) : Nat) : Int) := by rw [hv2, Int.natCast_mul]; rfl
  rw [es]
  refine t_storeK e H (fun h₁ k₁ H₁ => ?_) (hL.of (by first | walk_at "mem" | simp))
  refine T.execs_cons (T.Assign_Name (T.BinOp ?_))
  refine t_comp2P (f := fun x => (x.1, x.2 * (k + 1), 1)) (env₀ := envL) e X.hh X.hsc (by kernel_rfl!) (closureG1 (p := (Str.ofString "i")) (q := (Str.ofString "j")) rfl X.CM) (by kernel_rfl!) (by kernel_rfl!) (by kernel_rfl!) ?_
  refine T.Call_Name ?_
  refine T.global (v := .ref at_law_pass) e (X.G.sub H₁.base) (by kernel_rfl!) ?_ (X.kg _ (by first | walk_at "mem" | simp)) (by decide +kernel)
  refine T.callWith ?_ rfl
  walk_at "nm"
  walk_at "nm"
  refine ⟨Keeps.frag (X.G.sub H₁.base).k (by kernel_rfl!), T.call ?_⟩
  refine pass (X.G.sub H₁.base) X.hh (by (first | lia | omega)) (by (first | lia | omega)) (l1.isList (H₁.get (hb _ b1))) i1 (by (first | lia | omega)) (l2.isList (H₁.get (hb _ b2))) i2 (by (first | lia | omega)) fun h₂ r o vr fam ps E₂ l₂ P₂ gd => ?_
  have H₂ := H₁.ext E₂
  have hpl := gd.len
  refine ⟨r, vr, fam, ps, rfl, l₂.isList (E₂.led _ (by first | walk_at "mem" | simp)), P₂, fun p hp => E₂.led p (by simp [hp]), by (first | lia | omega), ?_, fun acc oa va₃ fam₃ h₃ X₃ l₃ T₃ => ?_⟩
  · intro env' m l' h₃ i j t1 t2 R e' kx sc' cl' H₃ ci cj r'
    have kf : ∀ y ∈ [(Str.ofString "many")], env'.kindOf y = some .cell := kinds_of sc' (env₀ := envL) X.hsc (by kernel_rfl!)
    have lP : env'.cells.lookup (Str.ofString "many") = some cM := by rw [cl']; rfl
    refine t_Tuple ?_ rfl
    walk_at "nm"
    refine T.BinOp ?_
    walk_at "nm"
    refine T.BinOp ?_
    refine t_NameC e' (kf _ (by first | walk_at "mem" | simp)) lP (H₃.base _ _ (by first | walk_at "mem" | simp) (H₂.get (List.mem_append_right _ (hb _ b0)))) iM ?_ (by decide +kernel)
    refine T.cInt fun u1 => T.add fun u2 => T.mul (bits_k hk.2) fun u3 => ?_
    refine T.cInt fun u4 => ⟨by show 3 ≤ sizeLine; decide, fun t h₄ ot s₄ n₄ g₄ l₄ => ?_⟩
    have ej : (j : Int) * ((k : Int) + 1) = ((j * (k + 1) : Nat) : Int) := by rw [Int.natCast_mul]; rfl
    rw [ej] at l₄
    exact r' t h₄ ot _ u3 u4 s₄ n₄ g₄ l₄
  have H₃ := H₂.ext X₃
  have mem₃ : ∀ {p}, p ∈ base → h₃.get? p.1 = some p.2 := fun {p} hp => H₃.led p (List.mem_append_right _ (List.mem_append_right _ (hb p hp)))
  refine t_List (t_Tuple ?_ rfl) rfl
  refine T.Call_Name ?_
  refine T.builtin (v := .builtin "len") e (X.G.sub H₃.base) (by kernel_rfl!) (by kernel_rfl!) ?_ (X.kg _ (by first | walk_at "mem" | simp)) (by decide +kernel) (by decide +kernel)
  refine T.callWith ?_ rfl
  walk_at "nm"
  refine ⟨Keeps.builtin, t_len (l1.isList (mem₃ b1)) (by (first | lia | omega)) fun t5 => ?_⟩
  walk_at "nm"
  refine T.cInt fun t6 => ⟨by show 3 ≤ sizeLine; decide, fun tA h₄ ot s₄ n₄ g₄ l₄ => ?_⟩
  have H₄ := H₃.add s₄ n₄ g₄
  refine t_Tuple ?_ rfl
  refine T.BinOp (T.Call_Name ?_)
  refine T.builtin (v := .builtin "len") e (X.G.sub H₄.base) (by kernel_rfl!) (by kernel_rfl!) ?_ (X.kg _ (by first | walk_at "mem" | simp)) (by decide +kernel) (by decide +kernel)
  refine T.callWith ?_ rfl
  walk_at "nm"
  refine ⟨Keeps.builtin, t_len (l1.isList (s₄ _ _ (by first | walk_at "mem" | simp) (mem₃ b1))) (by (first | lia | omega)) fun t7 => ?_⟩
  refine T.cInt fun t8 => T.add fun t9 => ?_
  refine T.BinOp ?_
  walk_at "nm"
  refine T.cInt fun t10 => T.add fun t11 => ?_
  refine T.cInt fun t12 => ⟨by show 3 ≤ sizeLine; decide, fun tB h₅ ob s₅ n₅ g₅ l₅ => ?_⟩
  have H₅ := H₄.add s₅ n₅ g₅
  refine ⟨by show 2 ≤ sizeLine; decide, fun lA h₆ ol s₆ n₆ g₆ l₆ => ?_⟩
  have H₆ := H₅.add s₆ n₆ g₆
  have h3l := T₃.length
  rw [List.length_map] at h3l
  refine t_addLists (l₃.isList (H₆.get (by first | walk_at "mem" | simp))) (l₆.isList g₆) (by rw [sizeLine_eq]; simp; (first | lia | omega)) fun du h₇ oD s₇ n₇ g₇ l₇ => ?_
  have H₇ := H₆.add s₇ n₇ g₇
  rw [hv1] at l₄ l₅
  rw [show (one.length : Int) + 2 = ((one.length + 2 : Nat) : Int) by (first | lia | omega), show ((other.length * (k + 1) : Nat) : Int) + 2 = ((other.length * (k + 1) + 2 : Nat) : Int) by (first | lia | omega)] at l₅
  have T₇ : TupsIn ((tB, ob) :: (tA, ot) :: fam₃) ((va₃ ++ [.ref tA]) ++ [.ref tB]) ((ps.map (fun x => (x.1, x.2 * (k + 1), 1)) ++ [(one.length, other.length * (k + 1), 2)]) ++ [(one.length + 2, other.length * (k + 1) + 2, 0)]) :=
    (((T₃.mono (fam' := (tB, ob) :: (tA, ot) :: fam₃) fun p hp => .tail _ (.tail _ hp)).snoc (.tail _ (.head _)) l₄).snoc (.head _) l₅)
  refine t_storeK e H₇ (fun h₈ k₈ H₈ => ?_) (hL.of (by first | walk_at "mem" | simp))
  have keep : ∀ b o, b ≠ env.locals → h.get? b = some o → h₈.get? b = some o := fun b o nb eb => k₈ b o (by simpa using nb) (s₇ b o (by first | walk_at "mem" | simp) (s₆ b o (by first | walk_at "mem" | simp) (s₅ b o (by first | walk_at "mem" | simp) (s₄ b o (by first | walk_at "mem" | simp) (X₃.sub b o (by first | walk_at "mem" | simp) (E₂.sub b o (by first | walk_at "mem" | simp) (k₁ b o (by simpa using nb) eb)))))))
  have H₉ : S h₀ [] env.locals (upd (upd m (Str.ofString "size") (.int ((other.length * (k + 1) : Nat) : Int) t4)) (Str.ofString "due") (.ref du)) (((du, oD) :: (lA, ol) :: (tB, ob) :: (tA, ot) :: ((acc, oa) :: fam₃ ++ ((r, o) :: fam))) ++ l) h₈ := by
    have := H₈
    simpa using this
  have P₉ := grow (base' := (du, oD) :: (tB, ob) :: (tA, ot) :: fam₃) H₉ keep (fun p hp => .inl (by
    simp only [List.mem_cons, List.mem_append] at hp ⊢
    rcases hp with z | z | z | z
    · exact .inl z
    · exact .inr (.inr (.inl z))
    · exact .inr (.inr (.inr (.inl z)))
    · exact .inr (.inr (.inr (.inr (.inl (.inr z)))))))
  refine law_blocks (du := du) (famD := (tB, ob) :: (tA, ot) :: fam₃) X n1 n2 hF hk z1 z2 (by walk_at "look") upd_here P₉ (.head _) l₇ (fun p hp => .tail _ hp) ?_ gd q
  simpa using T₇
theorem law_new (X : Lw prog w A h₀ env cK cM) (Y : Ten m base cM x a1 a2 aw sp oM o1 o2 ow os v1 v2 vw vs one other F k tF tk) (P : Ph prog w h₀ env.locals m base x other (spreadL one F k) a2 aw fresh h) {Q : Flow → Heap → Prop}
    (q : ∀ h', Sub [] h₀ h' → Q (.ret (.bool true)) h') : T prog w A (execs (lawB.drop 17) env) h Q := by
  have e := X.e
  have hL := X.hL
  have hd := X.hd
  have hu := X.hu
  have c1 := Y.c1
  have c2 := Y.c2
  have c3 := Y.c3
  have c5 := Y.c5
  have hk := Y.hk
  have z1 := Y.z1
  have z2 := Y.z2
  have zs := spread_small (one := other) (F := -F) z2 hk.2
  have hv1 := Y.i1.length
  refine P.grow c5 fun l H hb grow => ?_
  refine T.execs_cons (T.Assign_Name (t_List (T.BinOp ?_) rfl))
  walk_at "nm"
  refine T.cInt fun t1 => T.add fun t2 => T.BinOp ?_
  walk_at "nm"
  refine T.cInt fun t3 => T.add fun t4 => ⟨by show 2 ≤ sizeLine; decide, fun nw h₁ on s₁ n₁ g₁ l₁ => ?_⟩
  have H₁ := H.add s₁ n₁ g₁
  refine t_storeK e H₁ (fun h₂ k₂ H₂ => ?_) (hL.of (by first | walk_at "mem" | simp))
  refine T.execs_cons (T.Expr (T.Call_method ?_) e.inter)
  walk_at "nm"
  have keep₂ : ∀ b o, b ≠ env.locals → h.get? b = some o → h₂.get? b = some o := fun b o nb eb => k₂ b o (by simpa using nb) (s₁ b o (by first | walk_at "mem" | simp) eb)
  have P₂ := grow (l' := [(nw, on)]) (base' := base) H₂ keep₂ (fun p hp => .inr hp)
  refine P₂.meth X (fun am ok => ok.m6) fun dx od am I ia hm => ?_
  refine T.getMeth (f := at_SequenceMatcher_set_seqs) (plainSM w.params) (P₂.gr X).k I ia hm (by kernel_rfl!) (by kernel_rfl!) ?_
  refine T.callWith ?_ rfl
  refine T.BinOp ?_
  walk_at "nm"
  walk_at "nm"
  have gA : h₂.get? a1 = some o1 := H₂.get (.tail _ (hb _ Y.b1))
  refine t_addLists (Y.l1.isList gA) (l₁.isList (H₂.get (by first | walk_at "mem" | simp))) (by rw [sizeLine_eq]; simp; (first | lia | omega)) fun r1 h₃ o3 s₃ n₃ g₃ l₃ => ?_
  have H₃ := H₂.add s₃ n₃ g₃
  refine T.BinOp (T.Call_Name ?_)
  refine T.global (v := .ref at_law_spread) e (X.G.sub H₃.base) (by kernel_rfl!) ?_ (X.kg _ (by first | walk_at "mem" | simp)) (by decide +kernel)
  refine T.callWith ?_ rfl
  walk_at "nm"
  refine T.neg (a := F) (t := tF) ?_
  walk_at "nm"
  refine ⟨rfl, fun u => ?_⟩
  refine t_NameL e X.CM H₃ (.tail _ (.tail _ (hb _ Y.b0))) Y.iM ?_ (by decide +kernel)
  refine ⟨Keeps.frag (X.G.sub H₃.base).k (by kernel_rfl!), T.call ?_⟩
  refine spread (X.G.sub H₃.base) X.hh (by (first | lia | omega)) (Y.l2.isList (H₃.get (.tail _ (.tail _ (hb _ Y.b2))))) Y.i2 (by (first | lia | omega)) (by (first | lia | omega)) fun h₄ sq oq vq E₄ lq iq => ?_
  have H₄ := H₃.ext E₄
  have hvq := iq.length
  walk_at "nm"
  refine t_addLists (lq.isList (H₄.get (by first | walk_at "mem" | simp))) (l₁.isList (H₄.get (by first | walk_at "mem" | simp))) (by rw [sizeLine_eq]; simp; (first | lia | omega)) fun r2 h₅ o5 s₅ n₅ g₅ l₅ => ?_
  have H₅ := H₄.add s₅ n₅ g₅
  refine ⟨Keeps.frag (X.G.sub H₅.base).k (by kernel_rfl!), T.call ?_⟩
  have keep₅ : ∀ b o, b ≠ env.locals → h.get? b = some o → h₅.get? b = some o := fun b o nb eb => s₅ b o (by first | walk_at "mem" | simp) (E₄.sub b o (by first | walk_at "mem" | simp) (s₃ b o (by first | walk_at "mem" | simp) (keep₂ b o nb eb)))
  have P₅ := grow (l' := [(r2, o5), (sq, oq), (r1, o3), (nw, on)]) (base' := (r1, o3) :: (r2, o5) :: base) H₅ keep₅ (fun p hp => by
    simp only [List.mem_cons] at hp ⊢
    rcases hp with z | z | z
    · exact .inl (.inr (.inr (.inl z)))
    · exact .inl (.inl z)
    · exact .inr z)
  have in1 : IntsAre (v1 ++ [Value.int (F + 1) t2, .int (F + 2) t4]) (one ++ [F + 1, F + 2]) := intsAre_app Y.i1 (.cons _ _ (.cons _ _ .nil))
  have in2 : IntsAre (vq ++ [Value.int (F + 1) t2, .int (F + 2) t4]) (spreadL other (-F) k ++ [F + 1, F + 2]) := intsAre_app iq (.cons _ _ (.cons _ _ .nil))
  have ne1 : r1 ≠ a2 := fun z => by
    have := H₂.get (a := a2) (o := o2) (.tail _ (hb _ Y.b2))
    rw [← z, n₃] at this; cases this
  have ne2 : r2 ≠ aw := fun z => by
    have := H₄.get (a := aw) (o := ow) (.tail _ (.tail _ (.tail _ (hb _ Y.b3))))
    rw [← z, n₅] at this; cases this
  refine P₅.seqs X (.head _) l₃ in1 (by simp; (first | lia | omega)) (.tail _ (.head _)) l₅ in2 (by simp; (first | lia | omega)) (.tail _ (.tail _ Y.b2)) (.tail _ (.tail _ Y.b3)) ne1 ne2 fun h₆ P₆ => ⟨(fun b q => by cases q), ?_⟩
  exact law_due X Y.n1 Y.n2 Y.hF hk z1 z2 (by walk_at "look") (by walk_at "look") (by walk_at "look") (.tail _ (.tail _ Y.b0)) (.tail _ (.tail _ Y.b1)) (.tail _ (.tail _ Y.b2)) Y.iM Y.l1 Y.i1 Y.l2 Y.i2 P₆ q
end
theorem law_call {sa : Addr} {vs : List Value} {ns : List Int} {Q : Value → Heap → Prop} (G : Gr (frag w.params) h) (hh : A.handled = none) (hroom : A.depth + 50 < recursionLimit) (hu : A.units + 70 < cLine) (hl : h.IsList sa vs.toArray) (hi : IntsAre vs ns) (hz : ns.length < 10000)
    (q : ∀ h', Sub [] h h' → Q (.bool true) h') : TC prog w A (.call (.ref at_law) ⟨[.ref sa], []⟩) h Q := by
  refine TC.defC (binds := [((Str.ofString "script"), .ref sa)]) (mL := upd (fun _ => none) (Str.ofString "script") (.ref sa)) (cM := fun _ => none) (cs := fun L => [((Str.ofString "many"), L + 2), ((Str.ofString "kind"), L + 1)]) (fn_law w.params) G (by (first | lia | omega)) (by kernel_rfl!) (fun L => by rfl) (fun L => by rfl) ?_ ?_ (fun L => by
    have a : List.lookup (Str.ofString "many") [((Str.ofString "many"), L + 2), ((Str.ofString "kind"), L + 1)] = some (L + 2) := rfl
    have b : List.lookup (Str.ofString "kind") [((Str.ofString "many"), L + 2), ((Str.ofString "kind"), L + 1)] = some (L + 1) := rfl
    simp only [List.all_cons, List.all_nil, Bool.and_true, a, b, decide_true]) ?_
  · intro L
    have k1 : (callEnvC fdOf_law L at_law).kindOf (Str.ofString "script") = some .local := by kernel_rfl!
    simp only [bindL, k1, if_true]
    funext y; simp only [upd]
  · intro L
    have k1 : (callEnvC fdOf_law L at_law).kindOf (Str.ofString "script") = some .local := by kernel_rfl!
    simp only [bindC, k1, if_true]
  intro h₁ L oc hoc H
  have e := (fn_law w.params).ok L
  have hL : Loc (callEnvC fdOf_law L at_law) lawN := Loc.mk' (by kernel_rfl!)
  have kg : ∀ y ∈ lawG, (callEnvC fdOf_law L at_law).kindOf y = some .globalImplicit := by
    have : (lawG.all fun y => decide ((callEnvC fdOf_law L at_law).kindOf y = some .globalImplicit)) = true := by kernel_rfl!
    exact fun y hy => of_decide_eq_true (List.all_eq_true.mp this y hy)
  have CK : Cel (callEnvC fdOf_law L at_law) (Str.ofString "kind") (L + 1) := ⟨by kernel_rfl!, by rfl⟩
  have CM : Cel (callEnvC fdOf_law L at_law) (Str.ofString "many") (L + 2) := ⟨by kernel_rfl!, by rfl⟩
  have iK : IsCel (oc (Str.ofString "kind")) none := hoc ((Str.ofString "kind"), L + 1) (by first | walk_at "mem" | simp)
  have iM : IsCel (oc (Str.ofString "many")) none := hoc ((Str.ofString "many"), L + 2) (by first | walk_at "mem" | simp)
  replace H : S h [] L (upd (fun _ => none) (Str.ofString "script") (.ref sa)) [(L + 2, oc (Str.ofString "many")), (L + 1, oc (Str.ofString "kind"))] h₁ := H
  have X : Lw prog w (A.deeper (callEnvC fdOf_law L at_law)) h (callEnvC fdOf_law L at_law) (L + 1) (L + 2) := ⟨e, hL, kg, rfl, hh, G, CK, CM, by show A.depth + 1 + 40 < _; (first | lia | omega), by show A.units + 3 + 60 < _; (first | lia | omega)⟩
  refine law_head X iK iM upd_here hl hi hz H fun h₂ m₂ s1 oS vs' ns' oK' oM' kd sc tk tk2 ts kn iK' hkd iM' hk cs c2 lS iS hz' H₂ => ?_
  refine law_items X iK' hkd iM' hk cs c2 lS iS hz' (.head _) H₂ fun h₃ m₃ a1 o1 v1 one a2 o2 v2 other F tF l' l1 i1 z1 l2 i2 z2 n1 n2 hF c1 c2 c3 H₃ => ?_
  refine law_first X iM' hk l1 i1 z1 l2 i2 z2 n1 n2 hF c1 c2 c3 H₃ fun h₄ m₄ base x aw sp ow os vw vs Y P₄ => ?_
  refine law_second X Y P₄ fun h₅ P₅ => ?_
  refine law_third X Y P₅ fun h₆ P₆ => ?_
  exact law_new X Y P₆ fun h' s => q h' s
end
end Mine

end
section

open PySem PySem.W PyProof.Rows PySem.Calls
set_option Elab.async false
set_option linter.unusedVariables false
set_option maxRecDepth 100000
set_option maxHeartbeats 8000000
namespace Mine
theorem fin_try : PySem.Challenge.rw_dm0052_12.Holds := by
  w_on
  o_law
  refine holds_open (q := viewP) (loose := looseN) (Xt := fun s => xlAt viewP [] s && recOk [] s) (XP := XL viewP []) (Yf := Hook.obs (kHook frag fragAt fragAll)) (Ya := Hook.val (kHook frag fragAt fragAll)) (YP := Hook.says (kHook frag fragAt fragAll)) (N := 4522) ?hl (Hook.of (kHook frag fragAt fragAll)) (Hook.keeps (kHook frag fragAt fragAll)) (fun s e => xl_of s (Bool.and_eq_true_iff.mp e).1) XL.keeps (by rfl) (by rfl) (by rfl) (fun s e => recFacts_of (Bool.and_eq_true_iff.mp e).2) (by rfl) (by first | assumption | decide +kernel) (by decide +kernel) ⟨rfl, rfl, rfl, rfl, rfl, by decide +kernel⟩ ?hw ?hc
  case hl => exact left
  case hw => w_witness2
  case hc =>
    intro w s₀ s₁ mg mb G Y fa o pm cd doc dV kV ho hd hcd hD hmg hg args vals as hpre hlay hrd hwl hlo
    have KX := kIn_of Y
    refine Ground.open G ?_
    intro T B D TE TW
    wrow_args hpre hlay hrd hwl hlo
    rename_i nums _ _ _ _ _ _ _ la vsl _ hLl _ _ _ hI _ hc _
    have hfa : fa = at_law := by
      have hv : nsIn (frag w.params) mainGlobals (Str.ofString "law") = some (some (.ref at_law)) := by kernel_rfl!
      have h1 : mg (Str.ofString "law") = some (.ref at_law) := mg_of KX T.g hv
      have h2 : mg (Str.ofString "law") = some (.ref fa) := hmg
      rw [h1] at h2
      cases h2
      rfl
    have GG : Gr (frag w.params) s₁.heap := ⟨KX, ⟨mg, T.g⟩, ⟨mb, T.b, T.builtins⟩, T.nolimit⟩
    have LC : Mine.T PySem.Challenge.rw_dm0052_12.row.prog w callerA (call (.ref at_law) [.ref la]) s₁.heap (fun v h' => v = .bool true ∧ Sub [] s₁.heap h') :=
      Mine.T.call (law_call GG (by rfl) (by decide +kernel) (by decide +kernel) hLl hI (by (first | lia | omega)) fun h' sb => ⟨rfl, sb⟩)
    rw [hfa]
    refine wpAny_mono (LC s₁ rfl) ?_ (fun _ _ z => z.elim)
    rintro v s' ⟨h', tk, rfl, rfl, sb⟩
    refine ⟨.inl ⟨.bool true, .bool true, [], rfl, fun _ => rfl, .bool true, ?_, fun _ => ⟨.nil, by simp⟩⟩, .of_keep (fun b o e => sb b o (by first | walk_at "mem" | simp) e), rfl, .of_eq hg⟩
    wrow_post
end Mine

end
theorem PySem.Challenge.cw_dm0052_12_holds : PySem.Challenge.rw_dm0052_12.Holds :=
  Mine.fin_try
