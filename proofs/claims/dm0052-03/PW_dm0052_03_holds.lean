import PyProof.Rows.All
import Wide.All
import OpenK.AllK
import Wide.FinOn
import PyProof.Rows.Walk
import PyProof.Draws
import PyProof.EnumMake
import KE.KLam
import KE.KItem
import KE.KSortTup
import PyProof.CallFns
import PyProof.Rows.StrRules
import PyProof.Rows.RuleB_lshift
import PyProof.Rows.RuleB_or
import PyProof.Rows.RuleB_and
import PyProof.StrOps
import PyProof.StrWalks
import PyProof.Rows.StrInSeq3
import PyProof.Rows.SetFrom
import PyProof.StrCalls3
import PyProof.StrCalls2
import PyProof.Rows.StrJoin2
import PyProof.DictWalks
import PyProof.DictCompW
import PySem.Challenge.RW_dm0052_03
set_option Elab.async false
set_option tactic.hygienic false
set_option genInjectivity false
set_option genSizeOf false
set_option bootstrap.genMatcherCode false
set_option linter.unusedVariables false
set_option maxRecDepth 100000
set_option maxHeartbeats 8000000
open PySem PySem.W PyProof.Rows PySem.Calls
open PySem.Str (ofString)
section
namespace Mine
noncomputable def anyQ {α : Type} (as : Array α) (p : α → Bool) (start : Nat) (stop : Nat) : Bool :=
 @Bool.rec (fun zz=>Bool) (Array.any as p start stop) (R.anyR as.toList p) (Nat.beq start 0 && Nat.beq stop (as.toList.length))
theorem anyQ_eq : @Array.any.{0} = @anyQ:=by
 funext α as p start stop
 unfold anyQ
 cases h : (Nat.beq start 0 && Nat.beq stop (as.toList.length)) with
 | false=>rfl
 | true =>
  rw [Bool.and_eq_true] at h
  have h1:=Nat.eq_of_beq_eq_true h.1
  have h2:=Nat.eq_of_beq_eq_true h.2
  subst h1
  show _ = R.anyR as.toList p
  rw [← R.anyR_eq,h2]
  simp [Array.any_toList]
noncomputable def tabOf (f : Builtin) (id : String) : Option Builtin :=
 @Decidable.rec (id = "type.__new__") (fun zz=>Option Builtin) (fun zz=>PySem.W.Fast.tw14364793385576792824 id) (fun zz=>some f) (S.strDecS id "type.__new__")
theorem tab_new : PySem.W.Fast.tw14364793385576792824 "type.__new__" = some PySem.W.Fast.tw4202317264376624991:=by kernel_rfl
theorem tabOf_eq : PySem.treeTable = tabOf PySem.W.Fast.tw4202317264376624991:=by
 rw [PySem.W.Fast.te14364793385576792824]
 funext id
 unfold tabOf
 cases S.strDecS id "type.__new__" with
 | isFalse h=>rfl
 | isTrue h=>subst h; exact tab_new
end Mine
end
section
namespace Mine
noncomputable def pwBody : List Stmt:=PySem.Challenge.pw_dm0052_03.main.body
noncomputable def stN (l : List Stmt) (i : Nat) : Stmt:=l.getD i (.Pass ⟨0,0,0,0⟩)
noncomputable def bodyN : Stmt → List Stmt
 | .FunctionDef _ _ b _ _ _ _ _ _ _=>b
 | .ClassDef _ _ _ b _ _ _ _ _ _ _=>b
 | _=>[]
noncomputable def argsN : Stmt → Arguments
 | .FunctionDef _ a _ _ _ _ _ _ _ _=>a
 | _=>default
noncomputable def scopeN : Stmt → Scope
 | .FunctionDef _ _ _ _ _ _ s _ _ _=>s
 | _=>default
noncomputable def docN : List Stmt → Str
 | .Expr (.Constant (.str s) _ _) _ :: _=>s
 | _=>Str.empty
noncomputable def mkQ (l : List Char) : Str:=⟨⟨l.map Char.toNat⟩⟩
noncomputable def mkO (l : List Char) : Str:=Str.ofString (String.ofList l)
theorem mkOQ : mkO = mkQ:=by
 funext l
 unfold mkO mkQ
 rw [Str.ofString_eq_toList,String.toList_ofList]
theorem mkQs (s : String) : Str.ofString s = mkQ s.toList:=Str.ofString_eq_toList s
noncomputable def pwG : (List Char → Str) → Program:=by
 refine (?f : (F : (List Char → Str) → Program) → PySem.Challenge.pw_dm0052_03 = F mkQ → (List Char → Str) → Program) ?F ?h
 case h =>
  delta PySem.Challenge.pw_dm0052_03
  simp only [mkQs,String.reduceToList]
  generalize mkQ = g
  exact rfl
 case f=>exact fun F zz=>F
noncomputable def TW : Program:=by
 refine (?f : (p : Program) → pwG mkQ = p → Program) ?p ?h
 case h =>
  delta pwG mkQ
  simp only [List.map_cons,List.map_nil,Char.reduceToNat]
  exact rfl
 case f=>exact fun p zz=>p
theorem pwTW : PySem.Challenge.pw_dm0052_03 = TW:=by
 have a : PySem.Challenge.pw_dm0052_03 = pwG mkO:=by kernel_rfl!
 have b : pwG mkQ = TW:=by kernel_rfl!
 rw [a,mkOQ,b]
noncomputable def LW (p : Program) : OpenLaw:={ prog:=p,name:=(ofString "law"),about:=[(ofString "SequenceMatcher"),(ofString "__init__")],foot:=3,most:=some 63,bound:=none,writes:=false }
theorem rwT : PySem.Challenge.rw_dm0052_03 = LW TW:=(show _ = LW PySem.Challenge.pw_dm0052_03 by kernel_rfl!).trans (congrArg LW pwTW)
theorem saidT : (LW TW).wellSaid = true:=by
 delta OpenLaw.wellSaid
 repeat' (first | with_reducible refine PySem.W.look_both ?_ ?_ | delta OpenRow.wellSaid | delta OpenRow.partSaid | delta looksOpen)
 all_goals k_qdec
theorem said : PySem.Challenge.rw_dm0052_03.wellSaid = true:=(congrArg OpenLaw.wellSaid rwT).trans saidT
noncomputable def twBody : List Stmt:=TW.main.body
noncomputable def o3 (P : Params) : Obj:=⟨(.type "dict"),none,(.dict (#[⟨PyData.keyHash P (ofString "__name__"),(.str (ofString "__name__") 165),(.str (ofString "law_dm0052_03") 575)⟩,⟨PyData.keyHash P (ofString "__doc__"),(.str (ofString "__doc__") 166),.none⟩,⟨PyData.keyHash P (ofString "__package__"),(.str (ofString "__package__") 167),.none⟩,⟨PyData.keyHash P (ofString "__loader__"),(.str (ofString "__loader__") 168),(.builtin "__main__.__loader__#opaque")⟩,⟨PyData.keyHash P (ofString "__spec__"),(.str (ofString "__spec__") 169),.none⟩,⟨PyData.keyHash P (ofString "__annotations__"),(.str (ofString "__annotations__") 170),(.ref 6)⟩,⟨PyData.keyHash P (ofString "__builtins__"),(.str (ofString "__builtins__") 171),(.ref 4)⟩,⟨PyData.keyHash P (ofString "__file__"),(.str (ofString "__file__") 173),(.str (ofString "/claim/cut.py") 172)⟩,⟨PyData.keyHash P (ofString "__cached__"),(.str (ofString "__cached__") 174),.none⟩,⟨PyData.keyHash P (ofString "_wall"),(.str (ofString "_wall") 193),(.ref 21)⟩,⟨PyData.keyHash P (ofString "_tuplegetter"),(.str (ofString "_tuplegetter") 252),(.ref 60)⟩,⟨PyData.keyHash P (ofString "Match"),(.str (ofString "Match") 380),(.ref 135)⟩,⟨PyData.keyHash P (ofString "_calculate_ratio"),(.str (ofString "_calculate_ratio") 388),(.ref 145)⟩,⟨PyData.keyHash P (ofString "SequenceMatcher"),(.str (ofString "SequenceMatcher") 574),(.ref 242)⟩,⟨PyData.keyHash P (ofString "_law_texts"),(.str (ofString "_law_texts") 582),(.ref 251)⟩,⟨PyData.keyHash P (ofString "_law_popular"),(.str (ofString "_law_popular") 588),(.ref 256)⟩,⟨PyData.keyHash P (ofString "law"),(.str (ofString "law") 594),(.ref 261)⟩]) 17),#[]⟩
noncomputable def o11 (P : Params) : Obj:=⟨(.type "tuple"),none,(.seq (#[]) 0),#[]⟩
noncomputable def o12 (P : Params) : Obj:=⟨.none,none,(.fields (#[(.int 1 0),(.int 0 0),(.ref 20),(.int 5 0),(.int 0 0),(.ref 27),(.int 23 0),(.int 0 0),(.ref 71),(.int 66 0),(.int 0 0),(.ref 144),(.int 70 0),(.int 0 0),(.ref 151),(.int 419 0),(.int 0 0),(.ref 250),(.int 430 0),(.int 0 0),(.ref 255),(.int 433 0),(.int 0 0),(.ref 260)])),#[]⟩
noncomputable def o13 (P : Params) : Obj:=⟨(.type "code"),none,(.fields (#[(.str (ofString "<module>") 182),(.str (ofString "<module>") 183),(.str (ofString "/claim/cut.py") 184),(.int 1 0),(.int 0 0),(.int 0 0),(.int 0 0),(.int 0 0),(.ref 11),(.bool false),(.int 181 0),(.ref 12),.none,.none,.none,.none,(.int 185 0),(.int 1 0),(.str (ofString "/claim/cut.py") 186)])),#[]⟩
noncomputable def o14 (P : Params) : Obj:=⟨(.type "frame"),none,.plain,#[(some (.ref 13)),(some (.ref 3)),(some (.ref 3)),none,(some (.str (ofString "__main__") 164)),none,(some (.ref 0))]⟩
noncomputable def o15 (P : Params) : Obj:=⟨(.type "tuple"),none,(.seq (#[]) 0),#[]⟩
noncomputable def o16 (P : Params) : Obj:=⟨.none,none,(.fields (#[])),#[]⟩
noncomputable def o17 (P : Params) : Obj:=⟨(.type "tuple"),none,(.seq (#[(.str (ofString "k") 190)]) 0),#[]⟩
noncomputable def o18 (P : Params) : Obj:=⟨(.type "tuple"),none,(.seq (#[]) 0),#[]⟩
noncomputable def o19B (B : List Stmt) (P : Params) : Obj:=⟨.none,none,(.func { name:=(ofString "_wall"),qualname:=(ofString "_wall"),params:=argsN (stN B 0),body := .stmts (bodyN (stN B 0)),scope:=scopeN (stN B 0),globals:=0,closure:=[],defaults := .none,kwdefaults := .none,doc := .none,pyModule := .none,annotations:=none,code := .none,closureTuple := .none,builtins:=0 }),#[]⟩
noncomputable def o19 (P : Params) : Obj:=o19B pwBody P
noncomputable def o20 (P : Params) : Obj:=⟨(.type "code"),none,(.fields (#[(.str (ofString "_wall") 187),(.str (ofString "_wall") 188),(.str (ofString "/claim/cut.py") 189),(.int 1 0),(.int 1 0),(.int 0 0),(.int 0 0),(.int 3 0),(.ref 15),(.bool true),(.int 181 0),(.ref 16),.none,(.ref 17),(.ref 18),(.ref 19),(.int 191 0),(.int 1 0),(.str (ofString "/claim/cut.py") 192)])),#[]⟩
noncomputable def fd21B (B : List Stmt) : FuncData:={ name:=(ofString "_wall"),qualname:=(ofString "_wall"),params:=argsN (stN B 0),body := .stmts (bodyN (stN B 0)),scope:=scopeN (stN B 0),globals:=3,closure:=[],defaults := .none,kwdefaults := .none,doc := .none,pyModule:=(.str (ofString "__main__") 164),annotations:=none,code:=(.ref 20),closureTuple := .none,builtins:=0 }
noncomputable def fd21 : FuncData:=fd21B pwBody
noncomputable def at_wall : Addr:=21
noncomputable def fdOf_wall : FuncData:=fd21
noncomputable def o21B (B : List Stmt) (P : Params) : Obj:=⟨(.type "function"),none,(.func (fd21B B)),#[]⟩
noncomputable def o21 (P : Params) : Obj:=o21B pwBody P
noncomputable def obOf_wall (P : Params) : Obj:=o21 P
noncomputable def o22 (P : Params) : Obj:=⟨(.type "tuple"),none,(.seq (#[]) 0),#[]⟩
noncomputable def o23 (P : Params) : Obj:=⟨(.type "builtin_function_or_method"),none,(.fields (#[(.builtin "type.__prepare__"),(.type "type")])),#[]⟩
noncomputable def o24 (P : Params) : Obj:=⟨(.type "dict"),none,(.dict (#[⟨PyData.keyHash P (ofString "__module__"),(.str (ofString "__module__") 203),(.str (ofString "cpy313.difflib") 194)⟩,⟨PyData.keyHash P (ofString "__qualname__"),(.str (ofString "__qualname__") 205),(.str (ofString "_tuplegetter") 204)⟩,⟨PyData.keyHash P (ofString "__firstlineno__"),(.str (ofString "__firstlineno__") 207),(.int 5 206)⟩,⟨PyData.keyHash P (ofString "__init__"),(.str (ofString "__init__") 216),(.ref 35)⟩,⟨PyData.keyHash P (ofString "__get__"),(.str (ofString "__get__") 225),(.ref 43)⟩,⟨PyData.keyHash P (ofString "__set__"),(.str (ofString "__set__") 234),(.ref 50)⟩,⟨PyData.keyHash P (ofString "__delete__"),(.str (ofString "__delete__") 242),(.ref 57)⟩,⟨PyData.keyHash P (ofString "__static_attributes__"),(.str (ofString "__static_attributes__") 245),(.ref 58)⟩]) 8),#[]⟩
noncomputable def o25 (P : Params) : Obj:=⟨(.type "tuple"),none,(.seq (#[]) 0),#[]⟩
noncomputable def o26 (P : Params) : Obj:=⟨.none,none,(.fields (#[(.int 7 0),(.int 4 0),(.ref 34),(.int 11 0),(.int 4 0),(.ref 42),(.int 18 0),(.int 4 0),(.ref 49),(.int 21 0),(.int 4 0),(.ref 56)])),#[]⟩
noncomputable def o27 (P : Params) : Obj:=⟨(.type "code"),none,(.fields (#[(.str (ofString "_tuplegetter") 198),(.str (ofString "_tuplegetter") 199),(.str (ofString "/claim/cut.py") 200),(.int 5 0),(.int 0 0),(.int 0 0),(.int 0 0),(.int 0 0),(.ref 25),(.bool false),(.int 181 0),(.ref 26),.none,.none,.none,.none,(.int 201 0),(.int 5 0),(.str (ofString "/claim/cut.py") 202)])),#[]⟩
noncomputable def o28 (P : Params) : Obj:=⟨(.type "frame"),none,.plain,#[(some (.ref 27)),(some (.ref 3)),(some (.ref 24)),none,(some (.str (ofString "cpy313.difflib") 194)),none,(some (.ref 0))]⟩
noncomputable def o29 (P : Params) : Obj:=⟨(.type "tuple"),none,(.seq (#[]) 0),#[]⟩
noncomputable def o30 (P : Params) : Obj:=⟨.none,none,(.fields (#[])),#[]⟩
noncomputable def o31 (P : Params) : Obj:=⟨(.type "tuple"),none,(.seq (#[(.str (ofString "self") 211),(.str (ofString "index") 212),(.str (ofString "doc") 213)]) 0),#[]⟩
noncomputable def o32 (P : Params) : Obj:=⟨(.type "tuple"),none,(.seq (#[]) 0),#[]⟩
noncomputable def o33B (B : List Stmt) (P : Params) : Obj:=⟨.none,none,(.func { name:=(ofString "__init__"),qualname:=(ofString "_tuplegetter.__init__"),params:=argsN (stN (bodyN (stN B 2)) 0),body := .stmts (bodyN (stN (bodyN (stN B 2)) 0)),scope:=scopeN (stN (bodyN (stN B 2)) 0),globals:=0,closure:=[],defaults := .none,kwdefaults := .none,doc := .none,pyModule := .none,annotations:=none,code := .none,closureTuple := .none,builtins:=0 }),#[]⟩
noncomputable def o33 (P : Params) : Obj:=o33B pwBody P
noncomputable def o34 (P : Params) : Obj:=⟨(.type "code"),none,(.fields (#[(.str (ofString "__init__") 208),(.str (ofString "_tuplegetter.__init__") 209),(.str (ofString "/claim/cut.py") 210),(.int 7 0),(.int 3 0),(.int 0 0),(.int 0 0),(.int 3 0),(.ref 29),(.bool true),(.int 181 0),(.ref 30),.none,(.ref 31),(.ref 32),(.ref 33),(.int 214 0),(.int 7 0),(.str (ofString "/claim/cut.py") 215)])),#[]⟩
noncomputable def fd35B (B : List Stmt) : FuncData:={ name:=(ofString "__init__"),qualname:=(ofString "_tuplegetter.__init__"),params:=argsN (stN (bodyN (stN B 2)) 0),body := .stmts (bodyN (stN (bodyN (stN B 2)) 0)),scope:=scopeN (stN (bodyN (stN B 2)) 0),globals:=3,closure:=[],defaults := .none,kwdefaults := .none,doc := .none,pyModule:=(.str (ofString "cpy313.difflib") 194),annotations:=none,code:=(.ref 34),closureTuple := .none,builtins:=0 }
noncomputable def fd35 : FuncData:=fd35B pwBody
noncomputable def at_tuplegetter_init : Addr:=35
noncomputable def fdOf_tuplegetter_init : FuncData:=fd35
noncomputable def o35B (B : List Stmt) (P : Params) : Obj:=⟨(.type "function"),none,(.func (fd35B B)),#[]⟩
noncomputable def o35 (P : Params) : Obj:=o35B pwBody P
noncomputable def obOf_tuplegetter_init (P : Params) : Obj:=o35 P
noncomputable def o36 (P : Params) : Obj:=⟨(.type "tuple"),none,(.seq (#[.none]) 0),#[]⟩
noncomputable def o37 (P : Params) : Obj:=⟨(.type "tuple"),none,(.seq (#[]) 0),#[]⟩
noncomputable def o38 (P : Params) : Obj:=⟨.none,none,(.fields (#[])),#[]⟩
noncomputable def o39 (P : Params) : Obj:=⟨(.type "tuple"),none,(.seq (#[(.str (ofString "self") 220),(.str (ofString "obj") 221),(.str (ofString "objtype") 222)]) 0),#[]⟩
noncomputable def o40 (P : Params) : Obj:=⟨(.type "tuple"),none,(.seq (#[]) 0),#[]⟩
noncomputable def o41B (B : List Stmt) (P : Params) : Obj:=⟨.none,none,(.func { name:=(ofString "__get__"),qualname:=(ofString "_tuplegetter.__get__"),params:=argsN (stN (bodyN (stN B 2)) 1),body := .stmts (bodyN (stN (bodyN (stN B 2)) 1)),scope:=scopeN (stN (bodyN (stN B 2)) 1),globals:=0,closure:=[],defaults := .none,kwdefaults := .none,doc := .none,pyModule := .none,annotations:=none,code := .none,closureTuple := .none,builtins:=0 }),#[]⟩
noncomputable def o41 (P : Params) : Obj:=o41B pwBody P
noncomputable def o42 (P : Params) : Obj:=⟨(.type "code"),none,(.fields (#[(.str (ofString "__get__") 217),(.str (ofString "_tuplegetter.__get__") 218),(.str (ofString "/claim/cut.py") 219),(.int 11 0),(.int 3 0),(.int 0 0),(.int 0 0),(.int 3 0),(.ref 37),(.bool true),(.int 181 0),(.ref 38),.none,(.ref 39),(.ref 40),(.ref 41),(.int 223 0),(.int 11 0),(.str (ofString "/claim/cut.py") 224)])),#[]⟩
noncomputable def fd43B (B : List Stmt) : FuncData:={ name:=(ofString "__get__"),qualname:=(ofString "_tuplegetter.__get__"),params:=argsN (stN (bodyN (stN B 2)) 1),body := .stmts (bodyN (stN (bodyN (stN B 2)) 1)),scope:=scopeN (stN (bodyN (stN B 2)) 1),globals:=3,closure:=[],defaults:=(.ref 36),kwdefaults := .none,doc := .none,pyModule:=(.str (ofString "cpy313.difflib") 194),annotations:=none,code:=(.ref 42),closureTuple := .none,builtins:=0 }
noncomputable def fd43 : FuncData:=fd43B pwBody
noncomputable def at_tuplegetter_get : Addr:=43
noncomputable def fdOf_tuplegetter_get : FuncData:=fd43
noncomputable def o43B (B : List Stmt) (P : Params) : Obj:=⟨(.type "function"),none,(.func (fd43B B)),#[]⟩
noncomputable def o43 (P : Params) : Obj:=o43B pwBody P
noncomputable def obOf_tuplegetter_get (P : Params) : Obj:=o43 P
noncomputable def o44 (P : Params) : Obj:=⟨(.type "tuple"),none,(.seq (#[]) 0),#[]⟩
noncomputable def o45 (P : Params) : Obj:=⟨.none,none,(.fields (#[])),#[]⟩
noncomputable def o46 (P : Params) : Obj:=⟨(.type "tuple"),none,(.seq (#[(.str (ofString "self") 229),(.str (ofString "obj") 230),(.str (ofString "value") 231)]) 0),#[]⟩
noncomputable def o47 (P : Params) : Obj:=⟨(.type "tuple"),none,(.seq (#[]) 0),#[]⟩
noncomputable def o48B (B : List Stmt) (P : Params) : Obj:=⟨.none,none,(.func { name:=(ofString "__set__"),qualname:=(ofString "_tuplegetter.__set__"),params:=argsN (stN (bodyN (stN B 2)) 2),body := .stmts (bodyN (stN (bodyN (stN B 2)) 2)),scope:=scopeN (stN (bodyN (stN B 2)) 2),globals:=0,closure:=[],defaults := .none,kwdefaults := .none,doc := .none,pyModule := .none,annotations:=none,code := .none,closureTuple := .none,builtins:=0 }),#[]⟩
noncomputable def o48 (P : Params) : Obj:=o48B pwBody P
noncomputable def o49 (P : Params) : Obj:=⟨(.type "code"),none,(.fields (#[(.str (ofString "__set__") 226),(.str (ofString "_tuplegetter.__set__") 227),(.str (ofString "/claim/cut.py") 228),(.int 18 0),(.int 3 0),(.int 0 0),(.int 0 0),(.int 3 0),(.ref 44),(.bool true),(.int 181 0),(.ref 45),.none,(.ref 46),(.ref 47),(.ref 48),(.int 232 0),(.int 18 0),(.str (ofString "/claim/cut.py") 233)])),#[]⟩
noncomputable def fd50B (B : List Stmt) : FuncData:={ name:=(ofString "__set__"),qualname:=(ofString "_tuplegetter.__set__"),params:=argsN (stN (bodyN (stN B 2)) 2),body := .stmts (bodyN (stN (bodyN (stN B 2)) 2)),scope:=scopeN (stN (bodyN (stN B 2)) 2),globals:=3,closure:=[],defaults := .none,kwdefaults := .none,doc := .none,pyModule:=(.str (ofString "cpy313.difflib") 194),annotations:=none,code:=(.ref 49),closureTuple := .none,builtins:=0 }
noncomputable def fd50 : FuncData:=fd50B pwBody
noncomputable def at_tuplegetter_set : Addr:=50
noncomputable def fdOf_tuplegetter_set : FuncData:=fd50
noncomputable def o50B (B : List Stmt) (P : Params) : Obj:=⟨(.type "function"),none,(.func (fd50B B)),#[]⟩
noncomputable def o50 (P : Params) : Obj:=o50B pwBody P
noncomputable def obOf_tuplegetter_set (P : Params) : Obj:=o50 P
noncomputable def o51 (P : Params) : Obj:=⟨(.type "tuple"),none,(.seq (#[]) 0),#[]⟩
noncomputable def o52 (P : Params) : Obj:=⟨.none,none,(.fields (#[])),#[]⟩
noncomputable def o53 (P : Params) : Obj:=⟨(.type "tuple"),none,(.seq (#[(.str (ofString "self") 238),(.str (ofString "obj") 239)]) 0),#[]⟩
noncomputable def o54 (P : Params) : Obj:=⟨(.type "tuple"),none,(.seq (#[]) 0),#[]⟩
noncomputable def o55B (B : List Stmt) (P : Params) : Obj:=⟨.none,none,(.func { name:=(ofString "__delete__"),qualname:=(ofString "_tuplegetter.__delete__"),params:=argsN (stN (bodyN (stN B 2)) 3),body := .stmts (bodyN (stN (bodyN (stN B 2)) 3)),scope:=scopeN (stN (bodyN (stN B 2)) 3),globals:=0,closure:=[],defaults := .none,kwdefaults := .none,doc := .none,pyModule := .none,annotations:=none,code := .none,closureTuple := .none,builtins:=0 }),#[]⟩
noncomputable def o55 (P : Params) : Obj:=o55B pwBody P
noncomputable def o56 (P : Params) : Obj:=⟨(.type "code"),none,(.fields (#[(.str (ofString "__delete__") 235),(.str (ofString "_tuplegetter.__delete__") 236),(.str (ofString "/claim/cut.py") 237),(.int 21 0),(.int 2 0),(.int 0 0),(.int 0 0),(.int 3 0),(.ref 51),(.bool true),(.int 181 0),(.ref 52),.none,(.ref 53),(.ref 54),(.ref 55),(.int 240 0),(.int 21 0),(.str (ofString "/claim/cut.py") 241)])),#[]⟩
noncomputable def fd57B (B : List Stmt) : FuncData:={ name:=(ofString "__delete__"),qualname:=(ofString "_tuplegetter.__delete__"),params:=argsN (stN (bodyN (stN B 2)) 3),body := .stmts (bodyN (stN (bodyN (stN B 2)) 3)),scope:=scopeN (stN (bodyN (stN B 2)) 3),globals:=3,closure:=[],defaults := .none,kwdefaults := .none,doc := .none,pyModule:=(.str (ofString "cpy313.difflib") 194),annotations:=none,code:=(.ref 56),closureTuple := .none,builtins:=0 }
noncomputable def fd57 : FuncData:=fd57B pwBody
noncomputable def at_tuplegetter_delete : Addr:=57
noncomputable def fdOf_tuplegetter_delete : FuncData:=fd57
noncomputable def o57B (B : List Stmt) (P : Params) : Obj:=⟨(.type "function"),none,(.func (fd57B B)),#[]⟩
noncomputable def o57 (P : Params) : Obj:=o57B pwBody P
noncomputable def obOf_tuplegetter_delete (P : Params) : Obj:=o57 P
noncomputable def o58 (P : Params) : Obj:=⟨(.type "tuple"),none,(.seq (#[(.str (ofString "__doc__") 243),(.str (ofString "index") 244)]) 0),#[]⟩
noncomputable def o59 (P : Params) : Obj:=⟨(.type "dict"),none,(.dict (#[⟨PyData.keyHash P (ofString "__module__"),(.str (ofString "__module__") 203),(.str (ofString "cpy313.difflib") 194)⟩,⟨PyData.keyHash P (ofString "__firstlineno__"),(.str (ofString "__firstlineno__") 207),(.int 5 206)⟩,⟨PyData.keyHash P (ofString "__init__"),(.str (ofString "__init__") 216),(.ref 35)⟩,⟨PyData.keyHash P (ofString "__get__"),(.str (ofString "__get__") 225),(.ref 43)⟩,⟨PyData.keyHash P (ofString "__set__"),(.str (ofString "__set__") 234),(.ref 50)⟩,⟨PyData.keyHash P (ofString "__delete__"),(.str (ofString "__delete__") 242),(.ref 57)⟩,⟨PyData.keyHash P (ofString "__static_attributes__"),(.str (ofString "__static_attributes__") 245),(.ref 58)⟩,⟨PyData.keyHash P (ofString "__dict__"),(.str (ofString "__dict__") 247),(.ref 61)⟩,⟨PyData.keyHash P (ofString "__weakref__"),(.str (ofString "__weakref__") 249),(.ref 62)⟩,⟨PyData.keyHash P (ofString "__doc__"),(.str (ofString "__doc__") 250),.none⟩]) 4),#[]⟩
noncomputable def at_tuplegetter : Addr:=60
noncomputable def o60 (P : Params) : Obj:=⟨(.type "type"),none,(.cls { name:=(ofString "_tuplegetter"),bases:=[(.type "object")],mro:=[(.ref 60),(.type "object")],ns:=59,qualname:=(ofString "_tuplegetter"),hasDict:=true,slotNames:=[],subclasses:=[],abstract:=false,collection:=none,hasDel:=false }),#[none,none,(some (.str (ofString "_tuplegetter") 196)),(some (.str (ofString "_tuplegetter") 204)),(some (.builtin "object.__new__")),(some (.bool true))]⟩
noncomputable def o61 (P : Params) : Obj:=⟨(.type "getset_descriptor"),none,(.fields (#[(.str (ofString "__dict__") 246),(.ref 60),(.builtin "function.__dict__"),(.builtin "function.__dict__#set")])),#[]⟩
noncomputable def o62 (P : Params) : Obj:=⟨(.type "getset_descriptor"),none,(.fields (#[(.str (ofString "__weakref__") 248),(.ref 60),(.builtin "ExceptionGroup.__weakref__"),.none])),#[]⟩
noncomputable def o63 (P : Params) : Obj:=⟨(.type "super"),none,(.fields (#[(.ref 60),(.ref 60),(.ref 60)])),#[]⟩
noncomputable def o64 (P : Params) : Obj:=⟨(.type "builtin_function_or_method"),none,(.fields (#[(.builtin "object.__init_subclass__"),(.ref 60)])),#[]⟩
noncomputable def o65 (P : Params) : Obj:=⟨(.type "tuple"),none,(.seq (#[(.type "tuple")]) 0),#[]⟩
noncomputable def o66 (P : Params) : Obj:=⟨(.type "builtin_function_or_method"),none,(.fields (#[(.builtin "type.__prepare__"),(.type "type")])),#[]⟩
noncomputable def o67 (P : Params) : Obj:=⟨(.type "dict"),none,(.dict (#[⟨PyData.keyHash P (ofString "__module__"),(.str (ofString "__module__") 260),(.str (ofString "cpy313.difflib") 194)⟩,⟨PyData.keyHash P (ofString "__qualname__"),(.str (ofString "__qualname__") 262),(.str (ofString "Match") 261)⟩,⟨PyData.keyHash P (ofString "__firstlineno__"),(.str (ofString "__firstlineno__") 264),(.int 23 263)⟩,⟨PyData.keyHash P (ofString "__doc__"),(.str (ofString "__doc__") 266),(.str (ofString "Match(a, b, size)") 265)⟩,⟨PyData.keyHash P (ofString "__slots__"),(.str (ofString "__slots__") 268),(.ref 73)⟩,⟨PyData.keyHash P (ofString "_fields"),(.str (ofString "_fields") 272),(.ref 74)⟩,⟨PyData.keyHash P (ofString "_field_defaults"),(.str (ofString "_field_defaults") 273),(.ref 75)⟩,⟨PyData.keyHash P (ofString "__new__"),(.str (ofString "__new__") 284),(.ref 82)⟩,⟨PyData.keyHash P (ofString "_make"),(.str (ofString "_make") 306),(.ref 91)⟩,⟨PyData.keyHash P (ofString "_replace"),(.str (ofString "_replace") 317),(.ref 100)⟩,⟨PyData.keyHash P (ofString "__replace__"),(.str (ofString "__replace__") 318),(.ref 100)⟩,⟨PyData.keyHash P (ofString "__repr__"),(.str (ofString "__repr__") 326),(.ref 107)⟩,⟨PyData.keyHash P (ofString "_asdict"),(.str (ofString "_asdict") 333),(.ref 114)⟩,⟨PyData.keyHash P (ofString "__getnewargs__"),(.str (ofString "__getnewargs__") 341),(.ref 121)⟩,⟨PyData.keyHash P (ofString "__match_args__"),(.str (ofString "__match_args__") 345),(.ref 122)⟩,⟨PyData.keyHash P (ofString "a"),(.str (ofString "a") 355),(.ref 124)⟩,⟨PyData.keyHash P (ofString "b"),(.str (ofString "b") 365),(.ref 127)⟩,⟨PyData.keyHash P (ofString "size"),(.str (ofString "size") 375),(.ref 130)⟩,⟨PyData.keyHash P (ofString "__static_attributes__"),(.str (ofString "__static_attributes__") 376),(.ref 132)⟩,⟨PyData.keyHash P (ofString "__classcell__"),(.str (ofString "__classcell__") 377),(.ref 68)⟩]) 20),#[]⟩
noncomputable def o68 (P : Params) : Obj:=⟨(.type "cell"),none,(.cell (some (.ref 135))),#[]⟩
noncomputable def o69 (P : Params) : Obj:=⟨(.type "tuple"),none,(.seq (#[]) 0),#[]⟩
noncomputable def o70 (P : Params) : Obj:=⟨.none,none,(.fields (#[(.int 29 0),(.int 4 0),(.ref 81),(.int 34 0),(.int 4 0),(.ref 88),(.int 41 0),(.int 4 0),(.ref 99),(.int 52 0),(.int 4 0),(.ref 106),(.int 56 0),(.int 4 0),(.ref 113),(.int 59 0),(.int 4 0),(.ref 120)])),#[]⟩
noncomputable def o71 (P : Params) : Obj:=⟨(.type "code"),none,(.fields (#[(.str (ofString "Match") 255),(.str (ofString "Match") 256),(.str (ofString "/claim/cut.py") 257),(.int 23 0),(.int 0 0),(.int 0 0),(.int 0 0),(.int 0 0),(.ref 69),(.bool false),(.int 181 0),(.ref 70),.none,.none,.none,.none,(.int 258 0),(.int 23 0),(.str (ofString "/claim/cut.py") 259)])),#[]⟩
noncomputable def o72 (P : Params) : Obj:=⟨(.type "frame"),none,.plain,#[(some (.ref 71)),(some (.ref 3)),(some (.ref 67)),none,(some (.str (ofString "cpy313.difflib") 194)),none,(some (.ref 0))]⟩
noncomputable def o73 (P : Params) : Obj:=⟨(.type "tuple"),none,(.seq (#[]) 0),#[]⟩
noncomputable def o74 (P : Params) : Obj:=⟨(.type "tuple"),none,(.seq (#[(.str (ofString "a") 269),(.str (ofString "b") 270),(.str (ofString "size") 271)]) 0),#[]⟩
noncomputable def o75 (P : Params) : Obj:=⟨(.type "dict"),none,(.dict (#[]) 0),#[]⟩
noncomputable def o76 (P : Params) : Obj:=⟨(.type "tuple"),none,(.seq (#[]) 0),#[]⟩
noncomputable def o77 (P : Params) : Obj:=⟨.none,none,(.fields (#[])),#[]⟩
noncomputable def o78 (P : Params) : Obj:=⟨(.type "tuple"),none,(.seq (#[(.str (ofString "_cls") 277),(.str (ofString "a") 278),(.str (ofString "b") 279),(.str (ofString "size") 280)]) 0),#[]⟩
noncomputable def o79 (P : Params) : Obj:=⟨(.type "tuple"),none,(.seq (#[]) 0),#[]⟩
noncomputable def o80B (B : List Stmt) (P : Params) : Obj:=⟨.none,none,(.func { name:=(ofString "__new__"),qualname:=(ofString "Match.__new__"),params:=argsN (stN (bodyN (stN B 3)) 4),body := .stmts (bodyN (stN (bodyN (stN B 3)) 4)),scope:=scopeN (stN (bodyN (stN B 3)) 4),globals:=0,closure:=[],defaults := .none,kwdefaults := .none,doc := .none,pyModule := .none,annotations:=none,code := .none,closureTuple := .none,builtins:=0 }),#[]⟩
noncomputable def o80 (P : Params) : Obj:=o80B pwBody P
noncomputable def o81 (P : Params) : Obj:=⟨(.type "code"),none,(.fields (#[(.str (ofString "__new__") 274),(.str (ofString "Match.__new__") 275),(.str (ofString "/claim/cut.py") 276),(.int 29 0),(.int 4 0),(.int 0 0),(.int 0 0),(.int 3 0),(.ref 76),(.bool true),(.int 181 0),(.ref 77),.none,(.ref 78),(.ref 79),(.ref 80),(.int 281 0),(.int 29 0),(.str (ofString "/claim/cut.py") 282)])),#[]⟩
noncomputable def fd82B (B : List Stmt) : FuncData:={ name:=(ofString "__new__"),qualname:=(ofString "Match.__new__"),params:=argsN (stN (bodyN (stN B 3)) 4),body := .stmts (bodyN (stN (bodyN (stN B 3)) 4)),scope:=scopeN (stN (bodyN (stN B 3)) 4),globals:=3,closure:=[],defaults := .none,kwdefaults := .none,doc:=(.str (ofString "Create new instance of Match(a, b, size)") 283),pyModule:=(.str (ofString "cpy313.difflib") 194),annotations:=none,code:=(.ref 81),closureTuple := .none,builtins:=0 }
noncomputable def fd82 : FuncData:=fd82B pwBody
noncomputable def at_Match_new : Addr:=82
noncomputable def fdOf_Match_new : FuncData:=fd82
noncomputable def o82B (B : List Stmt) (P : Params) : Obj:=⟨(.type "function"),none,(.func (fd82B B)),#[]⟩
noncomputable def o82 (P : Params) : Obj:=o82B pwBody P
noncomputable def obOf_Match_new (P : Params) : Obj:=o82 P
noncomputable def o83 (P : Params) : Obj:=⟨(.type "tuple"),none,(.seq (#[]) 0),#[]⟩
noncomputable def o84 (P : Params) : Obj:=⟨.none,none,(.fields (#[])),#[]⟩
noncomputable def o85 (P : Params) : Obj:=⟨(.type "tuple"),none,(.seq (#[(.str (ofString "cls") 288),(.str (ofString "iterable") 289),(.str (ofString "result") 290)]) 0),#[]⟩
noncomputable def o86 (P : Params) : Obj:=⟨(.type "tuple"),none,(.seq (#[]) 0),#[]⟩
noncomputable def o87B (B : List Stmt) (P : Params) : Obj:=⟨.none,none,(.func { name:=(ofString "_make"),qualname:=(ofString "Match._make"),params:=argsN (stN (bodyN (stN B 3)) 5),body := .stmts (bodyN (stN (bodyN (stN B 3)) 5)),scope:=scopeN (stN (bodyN (stN B 3)) 5),globals:=0,closure:=[],defaults := .none,kwdefaults := .none,doc := .none,pyModule := .none,annotations:=none,code := .none,closureTuple := .none,builtins:=0 }),#[]⟩
noncomputable def o87 (P : Params) : Obj:=o87B pwBody P
noncomputable def o88 (P : Params) : Obj:=⟨(.type "code"),none,(.fields (#[(.str (ofString "_make") 285),(.str (ofString "Match._make") 286),(.str (ofString "/claim/cut.py") 287),(.int 33 0),(.int 2 0),(.int 0 0),(.int 0 0),(.int 3 0),(.ref 83),(.bool true),(.int 181 0),(.ref 84),.none,(.ref 85),(.ref 86),(.ref 87),(.int 291 0),(.int 33 0),(.str (ofString "/claim/cut.py") 292)])),#[]⟩
noncomputable def fd89B (B : List Stmt) : FuncData:={ name:=(ofString "_make"),qualname:=(ofString "Match._make"),params:=argsN (stN (bodyN (stN B 3)) 5),body := .stmts (bodyN (stN (bodyN (stN B 3)) 5)),scope:=scopeN (stN (bodyN (stN B 3)) 5),globals:=3,closure:=[],defaults := .none,kwdefaults := .none,doc:=(.str (ofString "Make a new Match object from a sequence or iterable") 293),pyModule:=(.str (ofString "cpy313.difflib") 194),annotations:=(some 92),code:=(.ref 88),closureTuple := .none,builtins:=0 }
noncomputable def fd89 : FuncData:=fd89B pwBody
noncomputable def at_Match_make : Addr:=89
noncomputable def fdOf_Match_make : FuncData:=fd89
noncomputable def o89B (B : List Stmt) (P : Params) : Obj:=⟨(.type "function"),none,(.func (fd89B B)),#[]⟩
noncomputable def o89 (P : Params) : Obj:=o89B pwBody P
noncomputable def obOf_Match_make (P : Params) : Obj:=o89 P
noncomputable def o90 (P : Params) : Obj:=⟨(.type "dict"),none,(.dict (#[⟨PyData.keyHash P (ofString "__module__"),(.str (ofString "__module__") 295),(.str (ofString "cpy313.difflib") 194)⟩,⟨PyData.keyHash P (ofString "__name__"),(.str (ofString "__name__") 298),(.str (ofString "_make") 297)⟩,⟨PyData.keyHash P (ofString "__qualname__"),(.str (ofString "__qualname__") 301),(.str (ofString "Match._make") 300)⟩,⟨PyData.keyHash P (ofString "__doc__"),(.str (ofString "__doc__") 303),(.str (ofString "Make a new Match object from a sequence or iterable") 293)⟩,⟨PyData.keyHash P (ofString "__annotations__"),(.str (ofString "__annotations__") 305),(.ref 92)⟩]) 5),#[]⟩
noncomputable def o91 (P : Params) : Obj:=⟨(.type "classmethod"),(some 90),(.fields (#[(.ref 89),(.bool false)])),#[]⟩
noncomputable def o92 (P : Params) : Obj:=⟨(.type "dict"),none,(.dict (#[]) 0),#[]⟩
noncomputable def o93 (P : Params) : Obj:=⟨(.type "tuple"),none,(.seq (#[(.ref 68)]) 0),#[]⟩
noncomputable def o94 (P : Params) : Obj:=⟨(.type "tuple"),none,(.seq (#[(.str (ofString "__class__") 310)]) 0),#[]⟩
noncomputable def o95 (P : Params) : Obj:=⟨.none,none,(.fields (#[])),#[]⟩
noncomputable def o96 (P : Params) : Obj:=⟨(.type "tuple"),none,(.seq (#[(.str (ofString "self") 311),(.str (ofString "kwds") 312),(.str (ofString "result") 313)]) 0),#[]⟩
noncomputable def o97 (P : Params) : Obj:=⟨(.type "tuple"),none,(.seq (#[]) 0),#[]⟩
noncomputable def o98B (B : List Stmt) (P : Params) : Obj:=⟨.none,none,(.func { name:=(ofString "_replace"),qualname:=(ofString "Match._replace"),params:=argsN (stN (bodyN (stN B 3)) 6),body := .stmts (bodyN (stN (bodyN (stN B 3)) 6)),scope:=scopeN (stN (bodyN (stN B 3)) 6),globals:=0,closure:=[],defaults := .none,kwdefaults := .none,doc := .none,pyModule := .none,annotations:=none,code := .none,closureTuple := .none,builtins:=0 }),#[]⟩
noncomputable def o98 (P : Params) : Obj:=o98B pwBody P
noncomputable def o99 (P : Params) : Obj:=⟨(.type "code"),none,(.fields (#[(.str (ofString "_replace") 307),(.str (ofString "Match._replace") 308),(.str (ofString "/claim/cut.py") 309),(.int 41 0),(.int 1 0),(.int 1 0),(.int 0 0),(.int 11 0),(.ref 94),(.bool true),(.int 181 0),(.ref 95),.none,(.ref 96),(.ref 97),(.ref 98),(.int 314 0),(.int 41 0),(.str (ofString "/claim/cut.py") 315)])),#[]⟩
noncomputable def fd100B (B : List Stmt) : FuncData:={ name:=(ofString "_replace"),qualname:=(ofString "Match._replace"),params:=argsN (stN (bodyN (stN B 3)) 6),body := .stmts (bodyN (stN (bodyN (stN B 3)) 6)),scope:=scopeN (stN (bodyN (stN B 3)) 6),globals:=3,closure:=[((ofString "__class__"),68)],defaults := .none,kwdefaults := .none,doc:=(.str (docN (bodyN (stN (bodyN (stN B 3)) 6))) 316),pyModule:=(.str (ofString "cpy313.difflib") 194),annotations:=none,code:=(.ref 99),closureTuple:=(.ref 93),builtins:=0 }
noncomputable def fd100 : FuncData:=fd100B pwBody
noncomputable def at_Match_replace : Addr:=100
noncomputable def fdOf_Match_replace : FuncData:=fd100
noncomputable def o100B (B : List Stmt) (P : Params) : Obj:=⟨(.type "function"),none,(.func (fd100B B)),#[]⟩
noncomputable def o100 (P : Params) : Obj:=o100B pwBody P
noncomputable def obOf_Match_replace (P : Params) : Obj:=o100 P
noncomputable def o101 (P : Params) : Obj:=⟨(.type "tuple"),none,(.seq (#[]) 0),#[]⟩
noncomputable def o102 (P : Params) : Obj:=⟨.none,none,(.fields (#[])),#[]⟩
noncomputable def o103 (P : Params) : Obj:=⟨(.type "tuple"),none,(.seq (#[(.str (ofString "self") 322)]) 0),#[]⟩
noncomputable def o104 (P : Params) : Obj:=⟨(.type "tuple"),none,(.seq (#[]) 0),#[]⟩
noncomputable def o105B (B : List Stmt) (P : Params) : Obj:=⟨.none,none,(.func { name:=(ofString "__repr__"),qualname:=(ofString "Match.__repr__"),params:=argsN (stN (bodyN (stN B 3)) 8),body := .stmts (bodyN (stN (bodyN (stN B 3)) 8)),scope:=scopeN (stN (bodyN (stN B 3)) 8),globals:=0,closure:=[],defaults := .none,kwdefaults := .none,doc := .none,pyModule := .none,annotations:=none,code := .none,closureTuple := .none,builtins:=0 }),#[]⟩
noncomputable def o105 (P : Params) : Obj:=o105B pwBody P
noncomputable def o106 (P : Params) : Obj:=⟨(.type "code"),none,(.fields (#[(.str (ofString "__repr__") 319),(.str (ofString "Match.__repr__") 320),(.str (ofString "/claim/cut.py") 321),(.int 52 0),(.int 1 0),(.int 0 0),(.int 0 0),(.int 3 0),(.ref 101),(.bool true),(.int 181 0),(.ref 102),.none,(.ref 103),(.ref 104),(.ref 105),(.int 323 0),(.int 52 0),(.str (ofString "/claim/cut.py") 324)])),#[]⟩
noncomputable def fd107B (B : List Stmt) : FuncData:={ name:=(ofString "__repr__"),qualname:=(ofString "Match.__repr__"),params:=argsN (stN (bodyN (stN B 3)) 8),body := .stmts (bodyN (stN (bodyN (stN B 3)) 8)),scope:=scopeN (stN (bodyN (stN B 3)) 8),globals:=3,closure:=[],defaults := .none,kwdefaults := .none,doc:=(.str (ofString "Return a nicely formatted representation string") 325),pyModule:=(.str (ofString "cpy313.difflib") 194),annotations:=none,code:=(.ref 106),closureTuple := .none,builtins:=0 }
noncomputable def fd107 : FuncData:=fd107B pwBody
noncomputable def at_Match_repr : Addr:=107
noncomputable def fdOf_Match_repr : FuncData:=fd107
noncomputable def o107B (B : List Stmt) (P : Params) : Obj:=⟨(.type "function"),none,(.func (fd107B B)),#[]⟩
noncomputable def o107 (P : Params) : Obj:=o107B pwBody P
noncomputable def obOf_Match_repr (P : Params) : Obj:=o107 P
noncomputable def o108 (P : Params) : Obj:=⟨(.type "tuple"),none,(.seq (#[]) 0),#[]⟩
noncomputable def o109 (P : Params) : Obj:=⟨.none,none,(.fields (#[])),#[]⟩
noncomputable def o110 (P : Params) : Obj:=⟨(.type "tuple"),none,(.seq (#[(.str (ofString "self") 330)]) 0),#[]⟩
noncomputable def o111 (P : Params) : Obj:=⟨(.type "tuple"),none,(.seq (#[]) 0),#[]⟩
noncomputable def o112B (B : List Stmt) (P : Params) : Obj:=⟨.none,none,(.func { name:=(ofString "_asdict"),qualname:=(ofString "Match._asdict"),params:=argsN (stN (bodyN (stN B 3)) 9),body := .stmts (bodyN (stN (bodyN (stN B 3)) 9)),scope:=scopeN (stN (bodyN (stN B 3)) 9),globals:=0,closure:=[],defaults := .none,kwdefaults := .none,doc := .none,pyModule := .none,annotations:=none,code := .none,closureTuple := .none,builtins:=0 }),#[]⟩
noncomputable def o112 (P : Params) : Obj:=o112B pwBody P
noncomputable def o113 (P : Params) : Obj:=⟨(.type "code"),none,(.fields (#[(.str (ofString "_asdict") 327),(.str (ofString "Match._asdict") 328),(.str (ofString "/claim/cut.py") 329),(.int 56 0),(.int 1 0),(.int 0 0),(.int 0 0),(.int 3 0),(.ref 108),(.bool true),(.int 181 0),(.ref 109),.none,(.ref 110),(.ref 111),(.ref 112),(.int 331 0),(.int 56 0),(.str (ofString "/claim/cut.py") 332)])),#[]⟩
noncomputable def fd114B (B : List Stmt) : FuncData:={ name:=(ofString "_asdict"),qualname:=(ofString "Match._asdict"),params:=argsN (stN (bodyN (stN B 3)) 9),body := .stmts (bodyN (stN (bodyN (stN B 3)) 9)),scope:=scopeN (stN (bodyN (stN B 3)) 9),globals:=3,closure:=[],defaults := .none,kwdefaults := .none,doc := .none,pyModule:=(.str (ofString "cpy313.difflib") 194),annotations:=none,code:=(.ref 113),closureTuple := .none,builtins:=0 }
noncomputable def fd114 : FuncData:=fd114B pwBody
noncomputable def at_Match_asdict : Addr:=114
noncomputable def fdOf_Match_asdict : FuncData:=fd114
noncomputable def o114B (B : List Stmt) (P : Params) : Obj:=⟨(.type "function"),none,(.func (fd114B B)),#[]⟩
noncomputable def o114 (P : Params) : Obj:=o114B pwBody P
noncomputable def obOf_Match_asdict (P : Params) : Obj:=o114 P
noncomputable def o115 (P : Params) : Obj:=⟨(.type "tuple"),none,(.seq (#[]) 0),#[]⟩
noncomputable def o116 (P : Params) : Obj:=⟨.none,none,(.fields (#[])),#[]⟩
noncomputable def o117 (P : Params) : Obj:=⟨(.type "tuple"),none,(.seq (#[(.str (ofString "self") 337)]) 0),#[]⟩
noncomputable def o118 (P : Params) : Obj:=⟨(.type "tuple"),none,(.seq (#[]) 0),#[]⟩
noncomputable def o119B (B : List Stmt) (P : Params) : Obj:=⟨.none,none,(.func { name:=(ofString "__getnewargs__"),qualname:=(ofString "Match.__getnewargs__"),params:=argsN (stN (bodyN (stN B 3)) 10),body := .stmts (bodyN (stN (bodyN (stN B 3)) 10)),scope:=scopeN (stN (bodyN (stN B 3)) 10),globals:=0,closure:=[],defaults := .none,kwdefaults := .none,doc := .none,pyModule := .none,annotations:=none,code := .none,closureTuple := .none,builtins:=0 }),#[]⟩
noncomputable def o119 (P : Params) : Obj:=o119B pwBody P
noncomputable def o120 (P : Params) : Obj:=⟨(.type "code"),none,(.fields (#[(.str (ofString "__getnewargs__") 334),(.str (ofString "Match.__getnewargs__") 335),(.str (ofString "/claim/cut.py") 336),(.int 59 0),(.int 1 0),(.int 0 0),(.int 0 0),(.int 3 0),(.ref 115),(.bool true),(.int 181 0),(.ref 116),.none,(.ref 117),(.ref 118),(.ref 119),(.int 338 0),(.int 59 0),(.str (ofString "/claim/cut.py") 339)])),#[]⟩
noncomputable def fd121B (B : List Stmt) : FuncData:={ name:=(ofString "__getnewargs__"),qualname:=(ofString "Match.__getnewargs__"),params:=argsN (stN (bodyN (stN B 3)) 10),body := .stmts (bodyN (stN (bodyN (stN B 3)) 10)),scope:=scopeN (stN (bodyN (stN B 3)) 10),globals:=3,closure:=[],defaults := .none,kwdefaults := .none,doc:=(.str (ofString "Return self as a plain tuple.  Used by copy and pickle.") 340),pyModule:=(.str (ofString "cpy313.difflib") 194),annotations:=none,code:=(.ref 120),closureTuple := .none,builtins:=0 }
noncomputable def fd121 : FuncData:=fd121B pwBody
noncomputable def at_Match_getnewargs : Addr:=121
noncomputable def fdOf_Match_getnewargs : FuncData:=fd121
noncomputable def o121B (B : List Stmt) (P : Params) : Obj:=⟨(.type "function"),none,(.func (fd121B B)),#[]⟩
noncomputable def o121 (P : Params) : Obj:=o121B pwBody P
noncomputable def obOf_Match_getnewargs (P : Params) : Obj:=o121 P
noncomputable def o122 (P : Params) : Obj:=⟨(.type "tuple"),none,(.seq (#[(.str (ofString "a") 342),(.str (ofString "b") 343),(.str (ofString "size") 344)]) 0),#[]⟩
noncomputable def o123 (P : Params) : Obj:=⟨(.type "dict"),none,(.dict (#[⟨PyData.keyHash P (ofString "index"),(.str (ofString "index") 352),(.int 0 346)⟩,⟨PyData.keyHash P (ofString "__doc__"),(.str (ofString "__doc__") 354),(.str (ofString "Alias for field number 0") 347)⟩]) 2),#[]⟩
noncomputable def o124 (P : Params) : Obj:=⟨(.ref 60),(some 123),.plain,#[]⟩
noncomputable def o125 (P : Params) : Obj:=⟨(.type "frame"),none,(.dict (#[⟨PyData.keyHash P (ofString "self"),(.str (ofString "self") 348),(.ref 124)⟩,⟨PyData.keyHash P (ofString "index"),(.str (ofString "index") 349),(.int 0 346)⟩,⟨PyData.keyHash P (ofString "doc"),(.str (ofString "doc") 350),(.str (ofString "Alias for field number 0") 347)⟩]) 3),#[]⟩
noncomputable def o126 (P : Params) : Obj:=⟨(.type "dict"),none,(.dict (#[⟨PyData.keyHash P (ofString "index"),(.str (ofString "index") 362),(.int 1 356)⟩,⟨PyData.keyHash P (ofString "__doc__"),(.str (ofString "__doc__") 364),(.str (ofString "Alias for field number 1") 357)⟩]) 2),#[]⟩
noncomputable def o127 (P : Params) : Obj:=⟨(.ref 60),(some 126),.plain,#[]⟩
noncomputable def o128 (P : Params) : Obj:=⟨(.type "frame"),none,(.dict (#[⟨PyData.keyHash P (ofString "self"),(.str (ofString "self") 358),(.ref 127)⟩,⟨PyData.keyHash P (ofString "index"),(.str (ofString "index") 359),(.int 1 356)⟩,⟨PyData.keyHash P (ofString "doc"),(.str (ofString "doc") 360),(.str (ofString "Alias for field number 1") 357)⟩]) 3),#[]⟩
noncomputable def o129 (P : Params) : Obj:=⟨(.type "dict"),none,(.dict (#[⟨PyData.keyHash P (ofString "index"),(.str (ofString "index") 372),(.int 2 366)⟩,⟨PyData.keyHash P (ofString "__doc__"),(.str (ofString "__doc__") 374),(.str (ofString "Alias for field number 2") 367)⟩]) 2),#[]⟩
noncomputable def o130 (P : Params) : Obj:=⟨(.ref 60),(some 129),.plain,#[]⟩
noncomputable def o131 (P : Params) : Obj:=⟨(.type "frame"),none,(.dict (#[⟨PyData.keyHash P (ofString "self"),(.str (ofString "self") 368),(.ref 130)⟩,⟨PyData.keyHash P (ofString "index"),(.str (ofString "index") 369),(.int 2 366)⟩,⟨PyData.keyHash P (ofString "doc"),(.str (ofString "doc") 370),(.str (ofString "Alias for field number 2") 367)⟩]) 3),#[]⟩
noncomputable def o132 (P : Params) : Obj:=⟨(.type "tuple"),none,(.seq (#[]) 0),#[]⟩
noncomputable def o133 (P : Params) : Obj:=⟨(.type "list"),none,(.seq (#[]) 0),#[]⟩
noncomputable def o134 (P : Params) : Obj:=⟨(.type "dict"),none,(.dict (#[⟨PyData.keyHash P (ofString "__module__"),(.str (ofString "__module__") 260),(.str (ofString "cpy313.difflib") 194)⟩,⟨PyData.keyHash P (ofString "__firstlineno__"),(.str (ofString "__firstlineno__") 264),(.int 23 263)⟩,⟨PyData.keyHash P (ofString "__doc__"),(.str (ofString "__doc__") 266),(.str (ofString "Match(a, b, size)") 265)⟩,⟨PyData.keyHash P (ofString "__slots__"),(.str (ofString "__slots__") 268),(.ref 73)⟩,⟨PyData.keyHash P (ofString "_fields"),(.str (ofString "_fields") 272),(.ref 74)⟩,⟨PyData.keyHash P (ofString "_field_defaults"),(.str (ofString "_field_defaults") 273),(.ref 75)⟩,⟨PyData.keyHash P (ofString "__new__"),(.str (ofString "__new__") 284),(.ref 136)⟩,⟨PyData.keyHash P (ofString "_make"),(.str (ofString "_make") 306),(.ref 91)⟩,⟨PyData.keyHash P (ofString "_replace"),(.str (ofString "_replace") 317),(.ref 100)⟩,⟨PyData.keyHash P (ofString "__replace__"),(.str (ofString "__replace__") 318),(.ref 100)⟩,⟨PyData.keyHash P (ofString "__repr__"),(.str (ofString "__repr__") 326),(.ref 107)⟩,⟨PyData.keyHash P (ofString "_asdict"),(.str (ofString "_asdict") 333),(.ref 114)⟩,⟨PyData.keyHash P (ofString "__getnewargs__"),(.str (ofString "__getnewargs__") 341),(.ref 121)⟩,⟨PyData.keyHash P (ofString "__match_args__"),(.str (ofString "__match_args__") 345),(.ref 122)⟩,⟨PyData.keyHash P (ofString "a"),(.str (ofString "a") 355),(.ref 124)⟩,⟨PyData.keyHash P (ofString "b"),(.str (ofString "b") 365),(.ref 127)⟩,⟨PyData.keyHash P (ofString "size"),(.str (ofString "size") 375),(.ref 130)⟩,⟨PyData.keyHash P (ofString "__static_attributes__"),(.str (ofString "__static_attributes__") 376),(.ref 132)⟩]) 2),#[]⟩
noncomputable def at_Match : Addr:=135
noncomputable def o135 (P : Params) : Obj:=⟨(.type "type"),none,(.cls { name:=(ofString "Match"),bases:=[(.type "tuple")],mro:=[(.ref 135),(.type "tuple"),(.type "object")],ns:=134,qualname:=(ofString "Match"),hasDict:=false,slotNames:=[],subclasses:=[],abstract:=false,collection:=none,hasDel:=false }),#[(some (.ref 65)),none,(some (.str (ofString "Match") 253)),(some (.str (ofString "Match") 261)),(some .none),(some (.bool false))]⟩
noncomputable def o136 (P : Params) : Obj:=⟨(.type "staticmethod"),none,(.fields (#[(.ref 82)])),#[]⟩
noncomputable def o137 (P : Params) : Obj:=⟨(.type "super"),none,(.fields (#[(.ref 135),(.ref 135),(.ref 135)])),#[]⟩
noncomputable def o138 (P : Params) : Obj:=⟨(.type "builtin_function_or_method"),none,(.fields (#[(.builtin "object.__init_subclass__"),(.ref 135)])),#[]⟩
noncomputable def o139 (P : Params) : Obj:=⟨(.type "tuple"),none,(.seq (#[]) 0),#[]⟩
noncomputable def o140 (P : Params) : Obj:=⟨.none,none,(.fields (#[])),#[]⟩
noncomputable def o141 (P : Params) : Obj:=⟨(.type "tuple"),none,(.seq (#[(.str (ofString "matches") 384),(.str (ofString "length") 385)]) 0),#[]⟩
noncomputable def o142 (P : Params) : Obj:=⟨(.type "tuple"),none,(.seq (#[]) 0),#[]⟩
noncomputable def o143B (B : List Stmt) (P : Params) : Obj:=⟨.none,none,(.func { name:=(ofString "_calculate_ratio"),qualname:=(ofString "_calculate_ratio"),params:=argsN (stN B 4),body := .stmts (bodyN (stN B 4)),scope:=scopeN (stN B 4),globals:=0,closure:=[],defaults := .none,kwdefaults := .none,doc := .none,pyModule := .none,annotations:=none,code := .none,closureTuple := .none,builtins:=0 }),#[]⟩
noncomputable def o143 (P : Params) : Obj:=o143B pwBody P
noncomputable def o144 (P : Params) : Obj:=⟨(.type "code"),none,(.fields (#[(.str (ofString "_calculate_ratio") 381),(.str (ofString "_calculate_ratio") 382),(.str (ofString "/claim/cut.py") 383),(.int 66 0),(.int 2 0),(.int 0 0),(.int 0 0),(.int 3 0),(.ref 139),(.bool true),(.int 181 0),(.ref 140),.none,(.ref 141),(.ref 142),(.ref 143),(.int 386 0),(.int 66 0),(.str (ofString "/claim/cut.py") 387)])),#[]⟩
noncomputable def fd145B (B : List Stmt) : FuncData:={ name:=(ofString "_calculate_ratio"),qualname:=(ofString "_calculate_ratio"),params:=argsN (stN B 4),body := .stmts (bodyN (stN B 4)),scope:=scopeN (stN B 4),globals:=3,closure:=[],defaults := .none,kwdefaults := .none,doc := .none,pyModule:=(.str (ofString "cpy313.difflib") 194),annotations:=none,code:=(.ref 144),closureTuple := .none,builtins:=0 }
noncomputable def fd145 : FuncData:=fd145B pwBody
noncomputable def at_calculate_ratio : Addr:=145
noncomputable def fdOf_calculate_ratio : FuncData:=fd145
noncomputable def o145B (B : List Stmt) (P : Params) : Obj:=⟨(.type "function"),none,(.func (fd145B B)),#[]⟩
noncomputable def o145 (P : Params) : Obj:=o145B pwBody P
noncomputable def obOf_calculate_ratio (P : Params) : Obj:=o145 P
noncomputable def o146 (P : Params) : Obj:=⟨(.type "tuple"),none,(.seq (#[]) 0),#[]⟩
noncomputable def o147 (P : Params) : Obj:=⟨(.type "builtin_function_or_method"),none,(.fields (#[(.builtin "type.__prepare__"),(.type "type")])),#[]⟩
noncomputable def o148B (B : List Stmt) (P : Params) : Obj:=⟨(.type "dict"),none,(.dict (#[⟨PyData.keyHash P (ofString "__module__"),(.str (ofString "__module__") 396),(.str (ofString "cpy313.difflib") 194)⟩,⟨PyData.keyHash P (ofString "__qualname__"),(.str (ofString "__qualname__") 398),(.str (ofString "SequenceMatcher") 397)⟩,⟨PyData.keyHash P (ofString "__firstlineno__"),(.str (ofString "__firstlineno__") 400),(.int 70 399)⟩,⟨PyData.keyHash P (ofString "__doc__"),(.str (ofString "__doc__") 402),(.str (docN (bodyN (stN B 5))) 401)⟩,⟨PyData.keyHash P (ofString "__init__"),(.str (ofString "__init__") 417),(.ref 160)⟩,⟨PyData.keyHash P (ofString "set_seqs"),(.str (ofString "set_seqs") 427),(.ref 167)⟩,⟨PyData.keyHash P (ofString "set_seq1"),(.str (ofString "set_seq1") 436),(.ref 174)⟩,⟨PyData.keyHash P (ofString "set_seq2"),(.str (ofString "set_seq2") 445),(.ref 181)⟩,⟨PyData.keyHash P (ofString "_SequenceMatcher__chain_b"),(.str (ofString "_SequenceMatcher__chain_b") 463),(.ref 188)⟩,⟨PyData.keyHash P (ofString "find_longest_match"),(.str (ofString "find_longest_match") 491),(.ref 196)⟩,⟨PyData.keyHash P (ofString "get_matching_blocks"),(.str (ofString "get_matching_blocks") 518),(.ref 203)⟩,⟨PyData.keyHash P (ofString "get_opcodes"),(.str (ofString "get_opcodes") 525),(.ref 210)⟩,⟨PyData.keyHash P (ofString "get_grouped_opcodes"),(.str (ofString "get_grouped_opcodes") 534),(.ref 218)⟩,⟨PyData.keyHash P (ofString "ratio"),(.str (ofString "ratio") 543),(.ref 225)⟩,⟨PyData.keyHash P (ofString "quick_ratio"),(.str (ofString "quick_ratio") 550),(.ref 232)⟩,⟨PyData.keyHash P (ofString "real_quick_ratio"),(.str (ofString "real_quick_ratio") 557),(.ref 239)⟩,⟨PyData.keyHash P (ofString "__static_attributes__"),(.str (ofString "__static_attributes__") 568),(.ref 240)⟩]) 17),#[]⟩
noncomputable def o148 (P : Params) : Obj:=o148B pwBody P
noncomputable def o149 (P : Params) : Obj:=⟨(.type "tuple"),none,(.seq (#[]) 0),#[]⟩
noncomputable def o150 (P : Params) : Obj:=⟨.none,none,(.fields (#[(.int 145 0),(.int 4 0),(.ref 159),(.int 173 0),(.int 4 0),(.ref 166),(.int 184 0),(.int 4 0),(.ref 173),(.int 209 0),(.int 4 0),(.ref 180),(.int 236 0),(.int 4 0),(.ref 187),(.int 260 0),(.int 4 0),(.ref 195),(.int 335 0),(.int 4 0),(.ref 202),(.int 383 0),(.int 4 0),(.ref 209),(.int 386 0),(.int 4 0),(.ref 217),(.int 389 0),(.int 4 0),(.ref 224),(.int 413 0),(.int 4 0),(.ref 231),(.int 416 0),(.int 4 0),(.ref 238)])),#[]⟩
noncomputable def o151 (P : Params) : Obj:=⟨(.type "code"),none,(.fields (#[(.str (ofString "SequenceMatcher") 391),(.str (ofString "SequenceMatcher") 392),(.str (ofString "/claim/cut.py") 393),(.int 70 0),(.int 0 0),(.int 0 0),(.int 0 0),(.int 0 0),(.ref 149),(.bool false),(.int 181 0),(.ref 150),.none,.none,.none,.none,(.int 394 0),(.int 70 0),(.str (ofString "/claim/cut.py") 395)])),#[]⟩
noncomputable def o152 (P : Params) : Obj:=⟨(.type "frame"),none,.plain,#[(some (.ref 151)),(some (.ref 3)),(some (.ref 148)),none,(some (.str (ofString "cpy313.difflib") 194)),none,(some (.ref 0))]⟩
noncomputable def o153 (P : Params) : Obj:=⟨(.type "tuple"),none,(.seq (#[.none,(.str (ofString "") 404),(.str (ofString "") 405),(.bool true)]) 0),#[]⟩
noncomputable def o154 (P : Params) : Obj:=⟨(.type "tuple"),none,(.seq (#[]) 0),#[]⟩
noncomputable def o155 (P : Params) : Obj:=⟨.none,none,(.fields (#[])),#[]⟩
noncomputable def o156 (P : Params) : Obj:=⟨(.type "tuple"),none,(.seq (#[(.str (ofString "self") 409),(.str (ofString "isjunk") 410),(.str (ofString "a") 411),(.str (ofString "b") 412),(.str (ofString "autojunk") 413)]) 0),#[]⟩
noncomputable def o157 (P : Params) : Obj:=⟨(.type "tuple"),none,(.seq (#[]) 0),#[]⟩
noncomputable def o158B (B : List Stmt) (P : Params) : Obj:=⟨.none,none,(.func { name:=(ofString "__init__"),qualname:=(ofString "SequenceMatcher.__init__"),params:=argsN (stN (bodyN (stN B 5)) 1),body := .stmts (bodyN (stN (bodyN (stN B 5)) 1)),scope:=scopeN (stN (bodyN (stN B 5)) 1),globals:=0,closure:=[],defaults := .none,kwdefaults := .none,doc := .none,pyModule := .none,annotations:=none,code := .none,closureTuple := .none,builtins:=0 }),#[]⟩
noncomputable def o158 (P : Params) : Obj:=o158B pwBody P
noncomputable def o159 (P : Params) : Obj:=⟨(.type "code"),none,(.fields (#[(.str (ofString "__init__") 406),(.str (ofString "SequenceMatcher.__init__") 407),(.str (ofString "/claim/cut.py") 408),(.int 145 0),(.int 5 0),(.int 0 0),(.int 0 0),(.int 3 0),(.ref 154),(.bool true),(.int 181 0),(.ref 155),.none,(.ref 156),(.ref 157),(.ref 158),(.int 414 0),(.int 145 0),(.str (ofString "/claim/cut.py") 415)])),#[]⟩
noncomputable def fd160B (B : List Stmt) : FuncData:={ name:=(ofString "__init__"),qualname:=(ofString "SequenceMatcher.__init__"),params:=argsN (stN (bodyN (stN B 5)) 1),body := .stmts (bodyN (stN (bodyN (stN B 5)) 1)),scope:=scopeN (stN (bodyN (stN B 5)) 1),globals:=3,closure:=[],defaults:=(.ref 153),kwdefaults := .none,doc:=(.str (docN (bodyN (stN (bodyN (stN B 5)) 1))) 416),pyModule:=(.str (ofString "cpy313.difflib") 194),annotations:=none,code:=(.ref 159),closureTuple := .none,builtins:=0 }
noncomputable def fd160 : FuncData:=fd160B pwBody
noncomputable def at_SequenceMatcher_init : Addr:=160
noncomputable def fdOf_SequenceMatcher_init : FuncData:=fd160
noncomputable def o160B (B : List Stmt) (P : Params) : Obj:=⟨(.type "function"),none,(.func (fd160B B)),#[]⟩
noncomputable def o160 (P : Params) : Obj:=o160B pwBody P
noncomputable def obOf_SequenceMatcher_init (P : Params) : Obj:=o160 P
noncomputable def o161 (P : Params) : Obj:=⟨(.type "tuple"),none,(.seq (#[]) 0),#[]⟩
noncomputable def o162 (P : Params) : Obj:=⟨.none,none,(.fields (#[])),#[]⟩
noncomputable def o163 (P : Params) : Obj:=⟨(.type "tuple"),none,(.seq (#[(.str (ofString "self") 421),(.str (ofString "a") 422),(.str (ofString "b") 423)]) 0),#[]⟩
noncomputable def o164 (P : Params) : Obj:=⟨(.type "tuple"),none,(.seq (#[]) 0),#[]⟩
noncomputable def o165B (B : List Stmt) (P : Params) : Obj:=⟨.none,none,(.func { name:=(ofString "set_seqs"),qualname:=(ofString "SequenceMatcher.set_seqs"),params:=argsN (stN (bodyN (stN B 5)) 2),body := .stmts (bodyN (stN (bodyN (stN B 5)) 2)),scope:=scopeN (stN (bodyN (stN B 5)) 2),globals:=0,closure:=[],defaults := .none,kwdefaults := .none,doc := .none,pyModule := .none,annotations:=none,code := .none,closureTuple := .none,builtins:=0 }),#[]⟩
noncomputable def o165 (P : Params) : Obj:=o165B pwBody P
noncomputable def o166 (P : Params) : Obj:=⟨(.type "code"),none,(.fields (#[(.str (ofString "set_seqs") 418),(.str (ofString "SequenceMatcher.set_seqs") 419),(.str (ofString "/claim/cut.py") 420),(.int 173 0),(.int 3 0),(.int 0 0),(.int 0 0),(.int 3 0),(.ref 161),(.bool true),(.int 181 0),(.ref 162),.none,(.ref 163),(.ref 164),(.ref 165),(.int 424 0),(.int 173 0),(.str (ofString "/claim/cut.py") 425)])),#[]⟩
noncomputable def fd167B (B : List Stmt) : FuncData:={ name:=(ofString "set_seqs"),qualname:=(ofString "SequenceMatcher.set_seqs"),params:=argsN (stN (bodyN (stN B 5)) 2),body := .stmts (bodyN (stN (bodyN (stN B 5)) 2)),scope:=scopeN (stN (bodyN (stN B 5)) 2),globals:=3,closure:=[],defaults := .none,kwdefaults := .none,doc:=(.str (docN (bodyN (stN (bodyN (stN B 5)) 2))) 426),pyModule:=(.str (ofString "cpy313.difflib") 194),annotations:=none,code:=(.ref 166),closureTuple := .none,builtins:=0 }
noncomputable def fd167 : FuncData:=fd167B pwBody
noncomputable def at_SequenceMatcher_set_seqs : Addr:=167
noncomputable def fdOf_SequenceMatcher_set_seqs : FuncData:=fd167
noncomputable def o167B (B : List Stmt) (P : Params) : Obj:=⟨(.type "function"),none,(.func (fd167B B)),#[]⟩
noncomputable def o167 (P : Params) : Obj:=o167B pwBody P
noncomputable def obOf_SequenceMatcher_set_seqs (P : Params) : Obj:=o167 P
noncomputable def o168 (P : Params) : Obj:=⟨(.type "tuple"),none,(.seq (#[]) 0),#[]⟩
noncomputable def o169 (P : Params) : Obj:=⟨.none,none,(.fields (#[])),#[]⟩
noncomputable def o170 (P : Params) : Obj:=⟨(.type "tuple"),none,(.seq (#[(.str (ofString "self") 431),(.str (ofString "a") 432)]) 0),#[]⟩
noncomputable def o171 (P : Params) : Obj:=⟨(.type "tuple"),none,(.seq (#[]) 0),#[]⟩
noncomputable def o172B (B : List Stmt) (P : Params) : Obj:=⟨.none,none,(.func { name:=(ofString "set_seq1"),qualname:=(ofString "SequenceMatcher.set_seq1"),params:=argsN (stN (bodyN (stN B 5)) 3),body := .stmts (bodyN (stN (bodyN (stN B 5)) 3)),scope:=scopeN (stN (bodyN (stN B 5)) 3),globals:=0,closure:=[],defaults := .none,kwdefaults := .none,doc := .none,pyModule := .none,annotations:=none,code := .none,closureTuple := .none,builtins:=0 }),#[]⟩
noncomputable def o172 (P : Params) : Obj:=o172B pwBody P
noncomputable def o173 (P : Params) : Obj:=⟨(.type "code"),none,(.fields (#[(.str (ofString "set_seq1") 428),(.str (ofString "SequenceMatcher.set_seq1") 429),(.str (ofString "/claim/cut.py") 430),(.int 184 0),(.int 2 0),(.int 0 0),(.int 0 0),(.int 3 0),(.ref 168),(.bool true),(.int 181 0),(.ref 169),.none,(.ref 170),(.ref 171),(.ref 172),(.int 433 0),(.int 184 0),(.str (ofString "/claim/cut.py") 434)])),#[]⟩
noncomputable def fd174B (B : List Stmt) : FuncData:={ name:=(ofString "set_seq1"),qualname:=(ofString "SequenceMatcher.set_seq1"),params:=argsN (stN (bodyN (stN B 5)) 3),body := .stmts (bodyN (stN (bodyN (stN B 5)) 3)),scope:=scopeN (stN (bodyN (stN B 5)) 3),globals:=3,closure:=[],defaults := .none,kwdefaults := .none,doc:=(.str (docN (bodyN (stN (bodyN (stN B 5)) 3))) 435),pyModule:=(.str (ofString "cpy313.difflib") 194),annotations:=none,code:=(.ref 173),closureTuple := .none,builtins:=0 }
noncomputable def fd174 : FuncData:=fd174B pwBody
noncomputable def at_SequenceMatcher_set_seq1 : Addr:=174
noncomputable def fdOf_SequenceMatcher_set_seq1 : FuncData:=fd174
noncomputable def o174B (B : List Stmt) (P : Params) : Obj:=⟨(.type "function"),none,(.func (fd174B B)),#[]⟩
noncomputable def o174 (P : Params) : Obj:=o174B pwBody P
noncomputable def obOf_SequenceMatcher_set_seq1 (P : Params) : Obj:=o174 P
noncomputable def o175 (P : Params) : Obj:=⟨(.type "tuple"),none,(.seq (#[]) 0),#[]⟩
noncomputable def o176 (P : Params) : Obj:=⟨.none,none,(.fields (#[])),#[]⟩
noncomputable def o177 (P : Params) : Obj:=⟨(.type "tuple"),none,(.seq (#[(.str (ofString "self") 440),(.str (ofString "b") 441)]) 0),#[]⟩
noncomputable def o178 (P : Params) : Obj:=⟨(.type "tuple"),none,(.seq (#[]) 0),#[]⟩
noncomputable def o179B (B : List Stmt) (P : Params) : Obj:=⟨.none,none,(.func { name:=(ofString "set_seq2"),qualname:=(ofString "SequenceMatcher.set_seq2"),params:=argsN (stN (bodyN (stN B 5)) 4),body := .stmts (bodyN (stN (bodyN (stN B 5)) 4)),scope:=scopeN (stN (bodyN (stN B 5)) 4),globals:=0,closure:=[],defaults := .none,kwdefaults := .none,doc := .none,pyModule := .none,annotations:=none,code := .none,closureTuple := .none,builtins:=0 }),#[]⟩
noncomputable def o179 (P : Params) : Obj:=o179B pwBody P
noncomputable def o180 (P : Params) : Obj:=⟨(.type "code"),none,(.fields (#[(.str (ofString "set_seq2") 437),(.str (ofString "SequenceMatcher.set_seq2") 438),(.str (ofString "/claim/cut.py") 439),(.int 209 0),(.int 2 0),(.int 0 0),(.int 0 0),(.int 3 0),(.ref 175),(.bool true),(.int 181 0),(.ref 176),.none,(.ref 177),(.ref 178),(.ref 179),(.int 442 0),(.int 209 0),(.str (ofString "/claim/cut.py") 443)])),#[]⟩
noncomputable def fd181B (B : List Stmt) : FuncData:={ name:=(ofString "set_seq2"),qualname:=(ofString "SequenceMatcher.set_seq2"),params:=argsN (stN (bodyN (stN B 5)) 4),body := .stmts (bodyN (stN (bodyN (stN B 5)) 4)),scope:=scopeN (stN (bodyN (stN B 5)) 4),globals:=3,closure:=[],defaults := .none,kwdefaults := .none,doc:=(.str (docN (bodyN (stN (bodyN (stN B 5)) 4))) 444),pyModule:=(.str (ofString "cpy313.difflib") 194),annotations:=none,code:=(.ref 180),closureTuple := .none,builtins:=0 }
noncomputable def fd181 : FuncData:=fd181B pwBody
noncomputable def at_SequenceMatcher_set_seq2 : Addr:=181
noncomputable def fdOf_SequenceMatcher_set_seq2 : FuncData:=fd181
noncomputable def o181B (B : List Stmt) (P : Params) : Obj:=⟨(.type "function"),none,(.func (fd181B B)),#[]⟩
noncomputable def o181 (P : Params) : Obj:=o181B pwBody P
noncomputable def obOf_SequenceMatcher_set_seq2 (P : Params) : Obj:=o181 P
noncomputable def o182 (P : Params) : Obj:=⟨(.type "tuple"),none,(.seq (#[]) 0),#[]⟩
noncomputable def o183 (P : Params) : Obj:=⟨.none,none,(.fields (#[])),#[]⟩
noncomputable def o184 (P : Params) : Obj:=⟨(.type "tuple"),none,(.seq (#[(.str (ofString "self") 449),(.str (ofString "b") 450),(.str (ofString "b2j") 451),(.str (ofString "i") 452),(.str (ofString "elt") 453),(.str (ofString "indices") 454),(.str (ofString "junk") 455),(.str (ofString "isjunk") 456),(.str (ofString "popular") 457),(.str (ofString "n") 458),(.str (ofString "ntest") 459),(.str (ofString "idxs") 460)]) 0),#[]⟩
noncomputable def o185 (P : Params) : Obj:=⟨(.type "tuple"),none,(.seq (#[]) 0),#[]⟩
noncomputable def o186B (B : List Stmt) (P : Params) : Obj:=⟨.none,none,(.func { name:=(ofString "__chain_b"),qualname:=(ofString "SequenceMatcher.__chain_b"),params:=argsN (stN (bodyN (stN B 5)) 5),body := .stmts (bodyN (stN (bodyN (stN B 5)) 5)),scope:=scopeN (stN (bodyN (stN B 5)) 5),globals:=0,closure:=[],defaults := .none,kwdefaults := .none,doc := .none,pyModule := .none,annotations:=none,code := .none,closureTuple := .none,builtins:=0 }),#[]⟩
noncomputable def o186 (P : Params) : Obj:=o186B pwBody P
noncomputable def o187 (P : Params) : Obj:=⟨(.type "code"),none,(.fields (#[(.str (ofString "__chain_b") 446),(.str (ofString "SequenceMatcher.__chain_b") 447),(.str (ofString "/claim/cut.py") 448),(.int 236 0),(.int 1 0),(.int 0 0),(.int 0 0),(.int 3 0),(.ref 182),(.bool true),(.int 181 0),(.ref 183),.none,(.ref 184),(.ref 185),(.ref 186),(.int 461 0),(.int 236 0),(.str (ofString "/claim/cut.py") 462)])),#[]⟩
noncomputable def fd188B (B : List Stmt) : FuncData:={ name:=(ofString "__chain_b"),qualname:=(ofString "SequenceMatcher.__chain_b"),params:=argsN (stN (bodyN (stN B 5)) 5),body := .stmts (bodyN (stN (bodyN (stN B 5)) 5)),scope:=scopeN (stN (bodyN (stN B 5)) 5),globals:=3,closure:=[],defaults := .none,kwdefaults := .none,doc := .none,pyModule:=(.str (ofString "cpy313.difflib") 194),annotations:=none,code:=(.ref 187),closureTuple := .none,builtins:=0 }
noncomputable def fd188 : FuncData:=fd188B pwBody
noncomputable def at_SequenceMatcher_chain_b : Addr:=188
noncomputable def fdOf_SequenceMatcher_chain_b : FuncData:=fd188
noncomputable def o188B (B : List Stmt) (P : Params) : Obj:=⟨(.type "function"),none,(.func (fd188B B)),#[]⟩
noncomputable def o188 (P : Params) : Obj:=o188B pwBody P
noncomputable def obOf_SequenceMatcher_chain_b (P : Params) : Obj:=o188 P
noncomputable def o189 (P : Params) : Obj:=⟨(.type "tuple"),none,(.seq (#[(.int 0 464),.none,(.int 0 465),.none]) 0),#[]⟩
noncomputable def o190 (P : Params) : Obj:=⟨(.type "tuple"),none,(.seq (#[]) 0),#[]⟩
noncomputable def o191 (P : Params) : Obj:=⟨.none,none,(.fields (#[])),#[]⟩
noncomputable def o192 (P : Params) : Obj:=⟨(.type "tuple"),none,(.seq (#[(.str (ofString "self") 469),(.str (ofString "alo") 470),(.str (ofString "ahi") 471),(.str (ofString "blo") 472),(.str (ofString "bhi") 473),(.str (ofString "a") 474),(.str (ofString "b") 475),(.str (ofString "b2j") 476),(.str (ofString "isbjunk") 477),(.str (ofString "besti") 478),(.str (ofString "bestj") 479),(.str (ofString "bestsize") 480),(.str (ofString "j2len") 481),(.str (ofString "nothing") 482),(.str (ofString "i") 483),(.str (ofString "j2lenget") 484),(.str (ofString "newj2len") 485),(.str (ofString "j") 486),(.str (ofString "k") 487)]) 0),#[]⟩
noncomputable def o193 (P : Params) : Obj:=⟨(.type "tuple"),none,(.seq (#[]) 0),#[]⟩
noncomputable def o194B (B : List Stmt) (P : Params) : Obj:=⟨.none,none,(.func { name:=(ofString "find_longest_match"),qualname:=(ofString "SequenceMatcher.find_longest_match"),params:=argsN (stN (bodyN (stN B 5)) 6),body := .stmts (bodyN (stN (bodyN (stN B 5)) 6)),scope:=scopeN (stN (bodyN (stN B 5)) 6),globals:=0,closure:=[],defaults := .none,kwdefaults := .none,doc := .none,pyModule := .none,annotations:=none,code := .none,closureTuple := .none,builtins:=0 }),#[]⟩
noncomputable def o194 (P : Params) : Obj:=o194B pwBody P
noncomputable def o195 (P : Params) : Obj:=⟨(.type "code"),none,(.fields (#[(.str (ofString "find_longest_match") 466),(.str (ofString "SequenceMatcher.find_longest_match") 467),(.str (ofString "/claim/cut.py") 468),(.int 260 0),(.int 5 0),(.int 0 0),(.int 0 0),(.int 3 0),(.ref 190),(.bool true),(.int 181 0),(.ref 191),.none,(.ref 192),(.ref 193),(.ref 194),(.int 488 0),(.int 260 0),(.str (ofString "/claim/cut.py") 489)])),#[]⟩
noncomputable def fd196B (B : List Stmt) : FuncData:={ name:=(ofString "find_longest_match"),qualname:=(ofString "SequenceMatcher.find_longest_match"),params:=argsN (stN (bodyN (stN B 5)) 6),body := .stmts (bodyN (stN (bodyN (stN B 5)) 6)),scope:=scopeN (stN (bodyN (stN B 5)) 6),globals:=3,closure:=[],defaults:=(.ref 189),kwdefaults := .none,doc:=(.str (docN (bodyN (stN (bodyN (stN B 5)) 6))) 490),pyModule:=(.str (ofString "cpy313.difflib") 194),annotations:=none,code:=(.ref 195),closureTuple := .none,builtins:=0 }
noncomputable def fd196 : FuncData:=fd196B pwBody
noncomputable def at_SequenceMatcher_find_longest_match : Addr:=196
noncomputable def fdOf_SequenceMatcher_find_longest_match : FuncData:=fd196
noncomputable def o196B (B : List Stmt) (P : Params) : Obj:=⟨(.type "function"),none,(.func (fd196B B)),#[]⟩
noncomputable def o196 (P : Params) : Obj:=o196B pwBody P
noncomputable def obOf_SequenceMatcher_find_longest_match (P : Params) : Obj:=o196 P
noncomputable def o197 (P : Params) : Obj:=⟨(.type "tuple"),none,(.seq (#[]) 0),#[]⟩
noncomputable def o198 (P : Params) : Obj:=⟨.none,none,(.fields (#[])),#[]⟩
noncomputable def o199 (P : Params) : Obj:=⟨(.type "tuple"),none,(.seq (#[(.str (ofString "self") 495),(.str (ofString "la") 496),(.str (ofString "lb") 497),(.str (ofString "queue") 498),(.str (ofString "matching_blocks") 499),(.str (ofString "alo") 500),(.str (ofString "ahi") 501),(.str (ofString "blo") 502),(.str (ofString "bhi") 503),(.str (ofString "i") 504),(.str (ofString "j") 505),(.str (ofString "k") 506),(.str (ofString "x") 507),(.str (ofString "i1") 508),(.str (ofString "j1") 509),(.str (ofString "k1") 510),(.str (ofString "non_adjacent") 511),(.str (ofString "i2") 512),(.str (ofString "j2") 513),(.str (ofString "k2") 514)]) 0),#[]⟩
noncomputable def o200 (P : Params) : Obj:=⟨(.type "tuple"),none,(.seq (#[]) 0),#[]⟩
noncomputable def o201B (B : List Stmt) (P : Params) : Obj:=⟨.none,none,(.func { name:=(ofString "get_matching_blocks"),qualname:=(ofString "SequenceMatcher.get_matching_blocks"),params:=argsN (stN (bodyN (stN B 5)) 7),body := .stmts (bodyN (stN (bodyN (stN B 5)) 7)),scope:=scopeN (stN (bodyN (stN B 5)) 7),globals:=0,closure:=[],defaults := .none,kwdefaults := .none,doc := .none,pyModule := .none,annotations:=none,code := .none,closureTuple := .none,builtins:=0 }),#[]⟩
noncomputable def o201 (P : Params) : Obj:=o201B pwBody P
noncomputable def o202 (P : Params) : Obj:=⟨(.type "code"),none,(.fields (#[(.str (ofString "get_matching_blocks") 492),(.str (ofString "SequenceMatcher.get_matching_blocks") 493),(.str (ofString "/claim/cut.py") 494),(.int 335 0),(.int 1 0),(.int 0 0),(.int 0 0),(.int 3 0),(.ref 197),(.bool true),(.int 181 0),(.ref 198),.none,(.ref 199),(.ref 200),(.ref 201),(.int 515 0),(.int 335 0),(.str (ofString "/claim/cut.py") 516)])),#[]⟩
noncomputable def fd203B (B : List Stmt) : FuncData:={ name:=(ofString "get_matching_blocks"),qualname:=(ofString "SequenceMatcher.get_matching_blocks"),params:=argsN (stN (bodyN (stN B 5)) 7),body := .stmts (bodyN (stN (bodyN (stN B 5)) 7)),scope:=scopeN (stN (bodyN (stN B 5)) 7),globals:=3,closure:=[],defaults := .none,kwdefaults := .none,doc:=(.str (docN (bodyN (stN (bodyN (stN B 5)) 7))) 517),pyModule:=(.str (ofString "cpy313.difflib") 194),annotations:=none,code:=(.ref 202),closureTuple := .none,builtins:=0 }
noncomputable def fd203 : FuncData:=fd203B pwBody
noncomputable def at_SequenceMatcher_get_matching_blocks : Addr:=203
noncomputable def fdOf_SequenceMatcher_get_matching_blocks : FuncData:=fd203
noncomputable def o203B (B : List Stmt) (P : Params) : Obj:=⟨(.type "function"),none,(.func (fd203B B)),#[]⟩
noncomputable def o203 (P : Params) : Obj:=o203B pwBody P
noncomputable def obOf_SequenceMatcher_get_matching_blocks (P : Params) : Obj:=o203 P
noncomputable def o204 (P : Params) : Obj:=⟨(.type "tuple"),none,(.seq (#[]) 0),#[]⟩
noncomputable def o205 (P : Params) : Obj:=⟨.none,none,(.fields (#[])),#[]⟩
noncomputable def o206 (P : Params) : Obj:=⟨(.type "tuple"),none,(.seq (#[(.str (ofString "self") 522)]) 0),#[]⟩
noncomputable def o207 (P : Params) : Obj:=⟨(.type "tuple"),none,(.seq (#[]) 0),#[]⟩
noncomputable def o208B (B : List Stmt) (P : Params) : Obj:=⟨.none,none,(.func { name:=(ofString "get_opcodes"),qualname:=(ofString "SequenceMatcher.get_opcodes"),params:=argsN (stN (bodyN (stN B 5)) 8),body := .stmts (bodyN (stN (bodyN (stN B 5)) 8)),scope:=scopeN (stN (bodyN (stN B 5)) 8),globals:=0,closure:=[],defaults := .none,kwdefaults := .none,doc := .none,pyModule := .none,annotations:=none,code := .none,closureTuple := .none,builtins:=0 }),#[]⟩
noncomputable def o208 (P : Params) : Obj:=o208B pwBody P
noncomputable def o209 (P : Params) : Obj:=⟨(.type "code"),none,(.fields (#[(.str (ofString "get_opcodes") 519),(.str (ofString "SequenceMatcher.get_opcodes") 520),(.str (ofString "/claim/cut.py") 521),(.int 383 0),(.int 1 0),(.int 0 0),(.int 0 0),(.int 3 0),(.ref 204),(.bool true),(.int 181 0),(.ref 205),.none,(.ref 206),(.ref 207),(.ref 208),(.int 523 0),(.int 383 0),(.str (ofString "/claim/cut.py") 524)])),#[]⟩
noncomputable def fd210B (B : List Stmt) : FuncData:={ name:=(ofString "get_opcodes"),qualname:=(ofString "SequenceMatcher.get_opcodes"),params:=argsN (stN (bodyN (stN B 5)) 8),body := .stmts (bodyN (stN (bodyN (stN B 5)) 8)),scope:=scopeN (stN (bodyN (stN B 5)) 8),globals:=3,closure:=[],defaults := .none,kwdefaults := .none,doc := .none,pyModule:=(.str (ofString "cpy313.difflib") 194),annotations:=none,code:=(.ref 209),closureTuple := .none,builtins:=0 }
noncomputable def fd210 : FuncData:=fd210B pwBody
noncomputable def at_SequenceMatcher_get_opcodes : Addr:=210
noncomputable def fdOf_SequenceMatcher_get_opcodes : FuncData:=fd210
noncomputable def o210B (B : List Stmt) (P : Params) : Obj:=⟨(.type "function"),none,(.func (fd210B B)),#[]⟩
noncomputable def o210 (P : Params) : Obj:=o210B pwBody P
noncomputable def obOf_SequenceMatcher_get_opcodes (P : Params) : Obj:=o210 P
noncomputable def o211 (P : Params) : Obj:=⟨(.type "tuple"),none,(.seq (#[(.int 3 526)]) 0),#[]⟩
noncomputable def o212 (P : Params) : Obj:=⟨(.type "tuple"),none,(.seq (#[]) 0),#[]⟩
noncomputable def o213 (P : Params) : Obj:=⟨.none,none,(.fields (#[])),#[]⟩
noncomputable def o214 (P : Params) : Obj:=⟨(.type "tuple"),none,(.seq (#[(.str (ofString "self") 530),(.str (ofString "n") 531)]) 0),#[]⟩
noncomputable def o215 (P : Params) : Obj:=⟨(.type "tuple"),none,(.seq (#[]) 0),#[]⟩
noncomputable def o216B (B : List Stmt) (P : Params) : Obj:=⟨.none,none,(.func { name:=(ofString "get_grouped_opcodes"),qualname:=(ofString "SequenceMatcher.get_grouped_opcodes"),params:=argsN (stN (bodyN (stN B 5)) 9),body := .stmts (bodyN (stN (bodyN (stN B 5)) 9)),scope:=scopeN (stN (bodyN (stN B 5)) 9),globals:=0,closure:=[],defaults := .none,kwdefaults := .none,doc := .none,pyModule := .none,annotations:=none,code := .none,closureTuple := .none,builtins:=0 }),#[]⟩
noncomputable def o216 (P : Params) : Obj:=o216B pwBody P
noncomputable def o217 (P : Params) : Obj:=⟨(.type "code"),none,(.fields (#[(.str (ofString "get_grouped_opcodes") 527),(.str (ofString "SequenceMatcher.get_grouped_opcodes") 528),(.str (ofString "/claim/cut.py") 529),(.int 386 0),(.int 2 0),(.int 0 0),(.int 0 0),(.int 3 0),(.ref 212),(.bool true),(.int 181 0),(.ref 213),.none,(.ref 214),(.ref 215),(.ref 216),(.int 532 0),(.int 386 0),(.str (ofString "/claim/cut.py") 533)])),#[]⟩
noncomputable def fd218B (B : List Stmt) : FuncData:={ name:=(ofString "get_grouped_opcodes"),qualname:=(ofString "SequenceMatcher.get_grouped_opcodes"),params:=argsN (stN (bodyN (stN B 5)) 9),body := .stmts (bodyN (stN (bodyN (stN B 5)) 9)),scope:=scopeN (stN (bodyN (stN B 5)) 9),globals:=3,closure:=[],defaults:=(.ref 211),kwdefaults := .none,doc := .none,pyModule:=(.str (ofString "cpy313.difflib") 194),annotations:=none,code:=(.ref 217),closureTuple := .none,builtins:=0 }
noncomputable def fd218 : FuncData:=fd218B pwBody
noncomputable def at_SequenceMatcher_get_grouped_opcodes : Addr:=218
noncomputable def fdOf_SequenceMatcher_get_grouped_opcodes : FuncData:=fd218
noncomputable def o218B (B : List Stmt) (P : Params) : Obj:=⟨(.type "function"),none,(.func (fd218B B)),#[]⟩
noncomputable def o218 (P : Params) : Obj:=o218B pwBody P
noncomputable def obOf_SequenceMatcher_get_grouped_opcodes (P : Params) : Obj:=o218 P
noncomputable def o219 (P : Params) : Obj:=⟨(.type "tuple"),none,(.seq (#[]) 0),#[]⟩
noncomputable def o220 (P : Params) : Obj:=⟨.none,none,(.fields (#[])),#[]⟩
noncomputable def o221 (P : Params) : Obj:=⟨(.type "tuple"),none,(.seq (#[(.str (ofString "self") 538),(.str (ofString "matches") 539)]) 0),#[]⟩
noncomputable def o222 (P : Params) : Obj:=⟨(.type "tuple"),none,(.seq (#[]) 0),#[]⟩
noncomputable def o223B (B : List Stmt) (P : Params) : Obj:=⟨.none,none,(.func { name:=(ofString "ratio"),qualname:=(ofString "SequenceMatcher.ratio"),params:=argsN (stN (bodyN (stN B 5)) 10),body := .stmts (bodyN (stN (bodyN (stN B 5)) 10)),scope:=scopeN (stN (bodyN (stN B 5)) 10),globals:=0,closure:=[],defaults := .none,kwdefaults := .none,doc := .none,pyModule := .none,annotations:=none,code := .none,closureTuple := .none,builtins:=0 }),#[]⟩
noncomputable def o223 (P : Params) : Obj:=o223B pwBody P
noncomputable def o224 (P : Params) : Obj:=⟨(.type "code"),none,(.fields (#[(.str (ofString "ratio") 535),(.str (ofString "SequenceMatcher.ratio") 536),(.str (ofString "/claim/cut.py") 537),(.int 389 0),(.int 1 0),(.int 0 0),(.int 0 0),(.int 3 0),(.ref 219),(.bool true),(.int 181 0),(.ref 220),.none,(.ref 221),(.ref 222),(.ref 223),(.int 540 0),(.int 389 0),(.str (ofString "/claim/cut.py") 541)])),#[]⟩
noncomputable def fd225B (B : List Stmt) : FuncData:={ name:=(ofString "ratio"),qualname:=(ofString "SequenceMatcher.ratio"),params:=argsN (stN (bodyN (stN B 5)) 10),body := .stmts (bodyN (stN (bodyN (stN B 5)) 10)),scope:=scopeN (stN (bodyN (stN B 5)) 10),globals:=3,closure:=[],defaults := .none,kwdefaults := .none,doc:=(.str (docN (bodyN (stN (bodyN (stN B 5)) 10))) 542),pyModule:=(.str (ofString "cpy313.difflib") 194),annotations:=none,code:=(.ref 224),closureTuple := .none,builtins:=0 }
noncomputable def fd225 : FuncData:=fd225B pwBody
noncomputable def at_SequenceMatcher_ratio : Addr:=225
noncomputable def fdOf_SequenceMatcher_ratio : FuncData:=fd225
noncomputable def o225B (B : List Stmt) (P : Params) : Obj:=⟨(.type "function"),none,(.func (fd225B B)),#[]⟩
noncomputable def o225 (P : Params) : Obj:=o225B pwBody P
noncomputable def obOf_SequenceMatcher_ratio (P : Params) : Obj:=o225 P
noncomputable def o226 (P : Params) : Obj:=⟨(.type "tuple"),none,(.seq (#[]) 0),#[]⟩
noncomputable def o227 (P : Params) : Obj:=⟨.none,none,(.fields (#[])),#[]⟩
noncomputable def o228 (P : Params) : Obj:=⟨(.type "tuple"),none,(.seq (#[(.str (ofString "self") 547)]) 0),#[]⟩
noncomputable def o229 (P : Params) : Obj:=⟨(.type "tuple"),none,(.seq (#[]) 0),#[]⟩
noncomputable def o230B (B : List Stmt) (P : Params) : Obj:=⟨.none,none,(.func { name:=(ofString "quick_ratio"),qualname:=(ofString "SequenceMatcher.quick_ratio"),params:=argsN (stN (bodyN (stN B 5)) 11),body := .stmts (bodyN (stN (bodyN (stN B 5)) 11)),scope:=scopeN (stN (bodyN (stN B 5)) 11),globals:=0,closure:=[],defaults := .none,kwdefaults := .none,doc := .none,pyModule := .none,annotations:=none,code := .none,closureTuple := .none,builtins:=0 }),#[]⟩
noncomputable def o230 (P : Params) : Obj:=o230B pwBody P
noncomputable def o231 (P : Params) : Obj:=⟨(.type "code"),none,(.fields (#[(.str (ofString "quick_ratio") 544),(.str (ofString "SequenceMatcher.quick_ratio") 545),(.str (ofString "/claim/cut.py") 546),(.int 413 0),(.int 1 0),(.int 0 0),(.int 0 0),(.int 3 0),(.ref 226),(.bool true),(.int 181 0),(.ref 227),.none,(.ref 228),(.ref 229),(.ref 230),(.int 548 0),(.int 413 0),(.str (ofString "/claim/cut.py") 549)])),#[]⟩
noncomputable def fd232B (B : List Stmt) : FuncData:={ name:=(ofString "quick_ratio"),qualname:=(ofString "SequenceMatcher.quick_ratio"),params:=argsN (stN (bodyN (stN B 5)) 11),body := .stmts (bodyN (stN (bodyN (stN B 5)) 11)),scope:=scopeN (stN (bodyN (stN B 5)) 11),globals:=3,closure:=[],defaults := .none,kwdefaults := .none,doc := .none,pyModule:=(.str (ofString "cpy313.difflib") 194),annotations:=none,code:=(.ref 231),closureTuple := .none,builtins:=0 }
noncomputable def fd232 : FuncData:=fd232B pwBody
noncomputable def at_SequenceMatcher_quick_ratio : Addr:=232
noncomputable def fdOf_SequenceMatcher_quick_ratio : FuncData:=fd232
noncomputable def o232B (B : List Stmt) (P : Params) : Obj:=⟨(.type "function"),none,(.func (fd232B B)),#[]⟩
noncomputable def o232 (P : Params) : Obj:=o232B pwBody P
noncomputable def obOf_SequenceMatcher_quick_ratio (P : Params) : Obj:=o232 P
noncomputable def o233 (P : Params) : Obj:=⟨(.type "tuple"),none,(.seq (#[]) 0),#[]⟩
noncomputable def o234 (P : Params) : Obj:=⟨.none,none,(.fields (#[])),#[]⟩
noncomputable def o235 (P : Params) : Obj:=⟨(.type "tuple"),none,(.seq (#[(.str (ofString "self") 554)]) 0),#[]⟩
noncomputable def o236 (P : Params) : Obj:=⟨(.type "tuple"),none,(.seq (#[]) 0),#[]⟩
noncomputable def o237B (B : List Stmt) (P : Params) : Obj:=⟨.none,none,(.func { name:=(ofString "real_quick_ratio"),qualname:=(ofString "SequenceMatcher.real_quick_ratio"),params:=argsN (stN (bodyN (stN B 5)) 12),body := .stmts (bodyN (stN (bodyN (stN B 5)) 12)),scope:=scopeN (stN (bodyN (stN B 5)) 12),globals:=0,closure:=[],defaults := .none,kwdefaults := .none,doc := .none,pyModule := .none,annotations:=none,code := .none,closureTuple := .none,builtins:=0 }),#[]⟩
noncomputable def o237 (P : Params) : Obj:=o237B pwBody P
noncomputable def o238 (P : Params) : Obj:=⟨(.type "code"),none,(.fields (#[(.str (ofString "real_quick_ratio") 551),(.str (ofString "SequenceMatcher.real_quick_ratio") 552),(.str (ofString "/claim/cut.py") 553),(.int 416 0),(.int 1 0),(.int 0 0),(.int 0 0),(.int 3 0),(.ref 233),(.bool true),(.int 181 0),(.ref 234),.none,(.ref 235),(.ref 236),(.ref 237),(.int 555 0),(.int 416 0),(.str (ofString "/claim/cut.py") 556)])),#[]⟩
noncomputable def fd239B (B : List Stmt) : FuncData:={ name:=(ofString "real_quick_ratio"),qualname:=(ofString "SequenceMatcher.real_quick_ratio"),params:=argsN (stN (bodyN (stN B 5)) 12),body := .stmts (bodyN (stN (bodyN (stN B 5)) 12)),scope:=scopeN (stN (bodyN (stN B 5)) 12),globals:=3,closure:=[],defaults := .none,kwdefaults := .none,doc := .none,pyModule:=(.str (ofString "cpy313.difflib") 194),annotations:=none,code:=(.ref 238),closureTuple := .none,builtins:=0 }
noncomputable def fd239 : FuncData:=fd239B pwBody
noncomputable def at_SequenceMatcher_real_quick_ratio : Addr:=239
noncomputable def fdOf_SequenceMatcher_real_quick_ratio : FuncData:=fd239
noncomputable def o239B (B : List Stmt) (P : Params) : Obj:=⟨(.type "function"),none,(.func (fd239B B)),#[]⟩
noncomputable def o239 (P : Params) : Obj:=o239B pwBody P
noncomputable def obOf_SequenceMatcher_real_quick_ratio (P : Params) : Obj:=o239 P
noncomputable def o240 (P : Params) : Obj:=⟨(.type "tuple"),none,(.seq (#[(.str (ofString "a") 558),(.str (ofString "autojunk") 559),(.str (ofString "b") 560),(.str (ofString "b2j") 561),(.str (ofString "bjunk") 562),(.str (ofString "bpopular") 563),(.str (ofString "fullbcount") 564),(.str (ofString "isjunk") 565),(.str (ofString "matching_blocks") 566),(.str (ofString "opcodes") 567)]) 0),#[]⟩
noncomputable def o241B (B : List Stmt) (P : Params) : Obj:=⟨(.type "dict"),none,(.dict (#[⟨PyData.keyHash P (ofString "__module__"),(.str (ofString "__module__") 396),(.str (ofString "cpy313.difflib") 194)⟩,⟨PyData.keyHash P (ofString "__firstlineno__"),(.str (ofString "__firstlineno__") 400),(.int 70 399)⟩,⟨PyData.keyHash P (ofString "__doc__"),(.str (ofString "__doc__") 402),(.str (docN (bodyN (stN B 5))) 401)⟩,⟨PyData.keyHash P (ofString "__init__"),(.str (ofString "__init__") 417),(.ref 160)⟩,⟨PyData.keyHash P (ofString "set_seqs"),(.str (ofString "set_seqs") 427),(.ref 167)⟩,⟨PyData.keyHash P (ofString "set_seq1"),(.str (ofString "set_seq1") 436),(.ref 174)⟩,⟨PyData.keyHash P (ofString "set_seq2"),(.str (ofString "set_seq2") 445),(.ref 181)⟩,⟨PyData.keyHash P (ofString "_SequenceMatcher__chain_b"),(.str (ofString "_SequenceMatcher__chain_b") 463),(.ref 188)⟩,⟨PyData.keyHash P (ofString "find_longest_match"),(.str (ofString "find_longest_match") 491),(.ref 196)⟩,⟨PyData.keyHash P (ofString "get_matching_blocks"),(.str (ofString "get_matching_blocks") 518),(.ref 203)⟩,⟨PyData.keyHash P (ofString "get_opcodes"),(.str (ofString "get_opcodes") 525),(.ref 210)⟩,⟨PyData.keyHash P (ofString "get_grouped_opcodes"),(.str (ofString "get_grouped_opcodes") 534),(.ref 218)⟩,⟨PyData.keyHash P (ofString "ratio"),(.str (ofString "ratio") 543),(.ref 225)⟩,⟨PyData.keyHash P (ofString "quick_ratio"),(.str (ofString "quick_ratio") 550),(.ref 232)⟩,⟨PyData.keyHash P (ofString "real_quick_ratio"),(.str (ofString "real_quick_ratio") 557),(.ref 239)⟩,⟨PyData.keyHash P (ofString "__static_attributes__"),(.str (ofString "__static_attributes__") 568),(.ref 240)⟩,⟨PyData.keyHash P (ofString "__dict__"),(.str (ofString "__dict__") 570),(.ref 243)⟩,⟨PyData.keyHash P (ofString "__weakref__"),(.str (ofString "__weakref__") 572),(.ref 244)⟩]) 3),#[]⟩
noncomputable def o241 (P : Params) : Obj:=o241B pwBody P
noncomputable def at_SequenceMatcher : Addr:=242
noncomputable def o242 (P : Params) : Obj:=⟨(.type "type"),none,(.cls { name:=(ofString "SequenceMatcher"),bases:=[(.type "object")],mro:=[(.ref 242),(.type "object")],ns:=241,qualname:=(ofString "SequenceMatcher"),hasDict:=true,slotNames:=[],subclasses:=[],abstract:=false,collection:=none,hasDel:=false }),#[none,none,(some (.str (ofString "SequenceMatcher") 389)),(some (.str (ofString "SequenceMatcher") 397)),(some (.builtin "object.__new__")),(some (.bool true))]⟩
noncomputable def o243 (P : Params) : Obj:=⟨(.type "getset_descriptor"),none,(.fields (#[(.str (ofString "__dict__") 569),(.ref 242),(.builtin "function.__dict__"),(.builtin "function.__dict__#set")])),#[]⟩
noncomputable def o244 (P : Params) : Obj:=⟨(.type "getset_descriptor"),none,(.fields (#[(.str (ofString "__weakref__") 571),(.ref 242),(.builtin "ExceptionGroup.__weakref__"),.none])),#[]⟩
noncomputable def o245 (P : Params) : Obj:=⟨(.type "super"),none,(.fields (#[(.ref 242),(.ref 242),(.ref 242)])),#[]⟩
noncomputable def o246 (P : Params) : Obj:=⟨(.type "builtin_function_or_method"),none,(.fields (#[(.builtin "object.__init_subclass__"),(.ref 242)])),#[]⟩
noncomputable def o247 (P : Params) : Obj:=⟨(.type "tuple"),none,(.seq (#[]) 0),#[]⟩
noncomputable def o248 (P : Params) : Obj:=⟨.none,none,(.fields (#[])),#[]⟩
noncomputable def o249B (B : List Stmt) (P : Params) : Obj:=⟨.none,none,(.func { name:=(ofString "_law_texts"),qualname:=(ofString "_law_texts"),params:=argsN (stN B 7),body := .stmts (bodyN (stN B 7)),scope:=scopeN (stN B 7),globals:=0,closure:=[],defaults := .none,kwdefaults := .none,doc := .none,pyModule := .none,annotations:=none,code := .none,closureTuple := .none,builtins:=0 }),#[]⟩
noncomputable def o249 (P : Params) : Obj:=o249B pwBody P
noncomputable def o250 (P : Params) : Obj:=⟨(.type "code"),none,(.fields (#[(.str (ofString "_law_texts") 577),(.str (ofString "_law_texts") 578),(.str (ofString "/claim/cut.py") 579),(.int 419 0),(.int 2 0),(.int 0 0),(.int 0 0),(.int 3 0),(.ref 247),(.bool true),(.int 181 0),(.ref 248),.none,.none,.none,(.ref 249),(.int 580 0),(.int 419 0),(.str (ofString "/claim/cut.py") 581)])),#[]⟩
noncomputable def fd251B (B : List Stmt) : FuncData:={ name:=(ofString "_law_texts"),qualname:=(ofString "_law_texts"),params:=argsN (stN B 7),body := .stmts (bodyN (stN B 7)),scope:=scopeN (stN B 7),globals:=3,closure:=[],defaults := .none,kwdefaults := .none,doc := .none,pyModule:=(.str (ofString "law_dm0052_03") 575),annotations:=none,code:=(.ref 250),closureTuple := .none,builtins:=0 }
noncomputable def fd251 : FuncData:=fd251B pwBody
noncomputable def at_law_texts : Addr:=251
noncomputable def fdOf_law_texts : FuncData:=fd251
noncomputable def o251B (B : List Stmt) (P : Params) : Obj:=⟨(.type "function"),none,(.func (fd251B B)),#[]⟩
noncomputable def o251 (P : Params) : Obj:=o251B pwBody P
noncomputable def obOf_law_texts (P : Params) : Obj:=o251 P
noncomputable def o252 (P : Params) : Obj:=⟨(.type "tuple"),none,(.seq (#[]) 0),#[]⟩
noncomputable def o253 (P : Params) : Obj:=⟨.none,none,(.fields (#[])),#[]⟩
noncomputable def o254B (B : List Stmt) (P : Params) : Obj:=⟨.none,none,(.func { name:=(ofString "_law_popular"),qualname:=(ofString "_law_popular"),params:=argsN (stN B 8),body := .stmts (bodyN (stN B 8)),scope:=scopeN (stN B 8),globals:=0,closure:=[],defaults := .none,kwdefaults := .none,doc := .none,pyModule := .none,annotations:=none,code := .none,closureTuple := .none,builtins:=0 }),#[]⟩
noncomputable def o254 (P : Params) : Obj:=o254B pwBody P
noncomputable def o255 (P : Params) : Obj:=⟨(.type "code"),none,(.fields (#[(.str (ofString "_law_popular") 583),(.str (ofString "_law_popular") 584),(.str (ofString "/claim/cut.py") 585),(.int 430 0),(.int 3 0),(.int 0 0),(.int 0 0),(.int 3 0),(.ref 252),(.bool true),(.int 181 0),(.ref 253),.none,.none,.none,(.ref 254),(.int 586 0),(.int 430 0),(.str (ofString "/claim/cut.py") 587)])),#[]⟩
noncomputable def fd256B (B : List Stmt) : FuncData:={ name:=(ofString "_law_popular"),qualname:=(ofString "_law_popular"),params:=argsN (stN B 8),body := .stmts (bodyN (stN B 8)),scope:=scopeN (stN B 8),globals:=3,closure:=[],defaults := .none,kwdefaults := .none,doc := .none,pyModule:=(.str (ofString "law_dm0052_03") 575),annotations:=none,code:=(.ref 255),closureTuple := .none,builtins:=0 }
noncomputable def fd256 : FuncData:=fd256B pwBody
noncomputable def at_law_popular : Addr:=256
noncomputable def fdOf_law_popular : FuncData:=fd256
noncomputable def o256B (B : List Stmt) (P : Params) : Obj:=⟨(.type "function"),none,(.func (fd256B B)),#[]⟩
noncomputable def o256 (P : Params) : Obj:=o256B pwBody P
noncomputable def obOf_law_popular (P : Params) : Obj:=o256 P
noncomputable def o257 (P : Params) : Obj:=⟨(.type "tuple"),none,(.seq (#[]) 0),#[]⟩
noncomputable def o258 (P : Params) : Obj:=⟨.none,none,(.fields (#[])),#[]⟩
noncomputable def o259B (B : List Stmt) (P : Params) : Obj:=⟨.none,none,(.func { name:=(ofString "law"),qualname:=(ofString "law"),params:=argsN (stN B 9),body := .stmts (bodyN (stN B 9)),scope:=scopeN (stN B 9),globals:=0,closure:=[],defaults := .none,kwdefaults := .none,doc := .none,pyModule := .none,annotations:=none,code := .none,closureTuple := .none,builtins:=0 }),#[]⟩
noncomputable def o259 (P : Params) : Obj:=o259B pwBody P
noncomputable def o260 (P : Params) : Obj:=⟨(.type "code"),none,(.fields (#[(.str (ofString "law") 589),(.str (ofString "law") 590),(.str (ofString "/claim/cut.py") 591),(.int 433 0),(.int 1 0),(.int 0 0),(.int 0 0),(.int 3 0),(.ref 257),(.bool true),(.int 181 0),(.ref 258),.none,.none,.none,(.ref 259),(.int 592 0),(.int 433 0),(.str (ofString "/claim/cut.py") 593)])),#[]⟩
noncomputable def fd261B (B : List Stmt) : FuncData:={ name:=(ofString "law"),qualname:=(ofString "law"),params:=argsN (stN B 9),body := .stmts (bodyN (stN B 9)),scope:=scopeN (stN B 9),globals:=3,closure:=[],defaults := .none,kwdefaults := .none,doc := .none,pyModule:=(.str (ofString "law_dm0052_03") 575),annotations:=none,code:=(.ref 260),closureTuple := .none,builtins:=0 }
noncomputable def fd261 : FuncData:=fd261B pwBody
noncomputable def at_law : Addr:=261
noncomputable def fdOf_law : FuncData:=fd261
noncomputable def o261B (B : List Stmt) (P : Params) : Obj:=⟨(.type "function"),none,(.func (fd261B B)),#[]⟩
noncomputable def o261 (P : Params) : Obj:=o261B pwBody P
noncomputable def obOf_law (P : Params) : Obj:=o261 P
noncomputable def p12 (P : Params) : Obj:=⟨.none,none,(.fields (#[])),#[]⟩
noncomputable def heapPre (P : Params) : Heap:=⟨Array.mk [PySem.W.boot_o_0 P,PySem.W.boot_o_1 P,PySem.W.boot_o_2 P,PySem.W.boot_o_3 P,PySem.W.boot_o_4 P,PySem.W.boot_o_5 P,PySem.W.boot_o_6 P,PySem.W.boot_o_7 P,PySem.W.boot_o_8 P,PySem.W.boot_o_9 P,PySem.W.boot_o_10 P,o11 P,p12 P,o13 P,o14 P],(boot_heap P).life⟩
noncomputable def treePre (P : Params) : BT:=(.node (PySem.W.boot_o_0 P) (.node (PySem.W.boot_o_1 P) (.node (PySem.W.boot_o_3 P) (.node (PySem.W.boot_o_7 P) .nil .nil) (.node (o11 P) .nil .nil)) (.node (PySem.W.boot_o_5 P) (.node (PySem.W.boot_o_9 P) .nil .nil) (.node (o13 P) .nil .nil))) (.node (PySem.W.boot_o_2 P) (.node (PySem.W.boot_o_4 P) (.node (PySem.W.boot_o_8 P) .nil .nil) (.node (p12 P) .nil .nil)) (.node (PySem.W.boot_o_6 P) (.node (PySem.W.boot_o_10 P) .nil .nil) (.node (o14 P) .nil .nil))))
noncomputable def hf21B (B : List Stmt) (P : Params) : List Obj:=o252 P :: o253 P :: (o254B B) P :: o255 P :: (o256B B) P :: o257 P :: o258 P :: (o259B B) P :: o260 P :: (o261B B) P :: []
noncomputable def hf21 (P : Params) : List Obj:=hf21B pwBody P
noncomputable def hf20B (B : List Stmt) (P : Params) : List Obj:=o240 P :: (o241B B) P :: o242 P :: o243 P :: o244 P :: o245 P :: o246 P :: o247 P :: o248 P :: (o249B B) P :: o250 P :: (o251B B) P :: (hf21B B) P
noncomputable def hf20 (P : Params) : List Obj:=hf20B pwBody P
noncomputable def hf19B (B : List Stmt) (P : Params) : List Obj:=o228 P :: o229 P :: (o230B B) P :: o231 P :: (o232B B) P :: o233 P :: o234 P :: o235 P :: o236 P :: (o237B B) P :: o238 P :: (o239B B) P :: (hf20B B) P
noncomputable def hf19 (P : Params) : List Obj:=hf19B pwBody P
noncomputable def hf18B (B : List Stmt) (P : Params) : List Obj:=(o216B B) P :: o217 P :: (o218B B) P :: o219 P :: o220 P :: o221 P :: o222 P :: (o223B B) P :: o224 P :: (o225B B) P :: o226 P :: o227 P :: (hf19B B) P
noncomputable def hf18 (P : Params) : List Obj:=hf18B pwBody P
noncomputable def hf17B (B : List Stmt) (P : Params) : List Obj:=o204 P :: o205 P :: o206 P :: o207 P :: (o208B B) P :: o209 P :: (o210B B) P :: o211 P :: o212 P :: o213 P :: o214 P :: o215 P :: (hf18B B) P
noncomputable def hf17 (P : Params) : List Obj:=hf17B pwBody P
noncomputable def hf16B (B : List Stmt) (P : Params) : List Obj:=o192 P :: o193 P :: (o194B B) P :: o195 P :: (o196B B) P :: o197 P :: o198 P :: o199 P :: o200 P :: (o201B B) P :: o202 P :: (o203B B) P :: (hf17B B) P
noncomputable def hf16 (P : Params) : List Obj:=hf16B pwBody P
noncomputable def hf15B (B : List Stmt) (P : Params) : List Obj:=o180 P :: (o181B B) P :: o182 P :: o183 P :: o184 P :: o185 P :: (o186B B) P :: o187 P :: (o188B B) P :: o189 P :: o190 P :: o191 P :: (hf16B B) P
noncomputable def hf15 (P : Params) : List Obj:=hf15B pwBody P
noncomputable def hf14B (B : List Stmt) (P : Params) : List Obj:=o168 P :: o169 P :: o170 P :: o171 P :: (o172B B) P :: o173 P :: (o174B B) P :: o175 P :: o176 P :: o177 P :: o178 P :: (o179B B) P :: (hf15B B) P
noncomputable def hf14 (P : Params) : List Obj:=hf14B pwBody P
noncomputable def hf13B (B : List Stmt) (P : Params) : List Obj:=o156 P :: o157 P :: (o158B B) P :: o159 P :: (o160B B) P :: o161 P :: o162 P :: o163 P :: o164 P :: (o165B B) P :: o166 P :: (o167B B) P :: (hf14B B) P
noncomputable def hf13 (P : Params) : List Obj:=hf13B pwBody P
noncomputable def hf12B (B : List Stmt) (P : Params) : List Obj:=o144 P :: (o145B B) P :: o146 P :: o147 P :: (o148B B) P :: o149 P :: o150 P :: o151 P :: o152 P :: o153 P :: o154 P :: o155 P :: (hf13B B) P
noncomputable def hf12 (P : Params) : List Obj:=hf12B pwBody P
noncomputable def hf11B (B : List Stmt) (P : Params) : List Obj:=o132 P :: o133 P :: o134 P :: o135 P :: o136 P :: o137 P :: o138 P :: o139 P :: o140 P :: o141 P :: o142 P :: (o143B B) P :: (hf12B B) P
noncomputable def hf11 (P : Params) : List Obj:=hf11B pwBody P
noncomputable def hf10B (B : List Stmt) (P : Params) : List Obj:=o120 P :: (o121B B) P :: o122 P :: o123 P :: o124 P :: o125 P :: o126 P :: o127 P :: o128 P :: o129 P :: o130 P :: o131 P :: (hf11B B) P
noncomputable def hf10 (P : Params) : List Obj:=hf10B pwBody P
noncomputable def hf9B (B : List Stmt) (P : Params) : List Obj:=o108 P :: o109 P :: o110 P :: o111 P :: (o112B B) P :: o113 P :: (o114B B) P :: o115 P :: o116 P :: o117 P :: o118 P :: (o119B B) P :: (hf10B B) P
noncomputable def hf9 (P : Params) : List Obj:=hf9B pwBody P
noncomputable def hf8B (B : List Stmt) (P : Params) : List Obj:=o96 P :: o97 P :: (o98B B) P :: o99 P :: (o100B B) P :: o101 P :: o102 P :: o103 P :: o104 P :: (o105B B) P :: o106 P :: (o107B B) P :: (hf9B B) P
noncomputable def hf8 (P : Params) : List Obj:=hf8B pwBody P
noncomputable def hf7B (B : List Stmt) (P : Params) : List Obj:=o84 P :: o85 P :: o86 P :: (o87B B) P :: o88 P :: (o89B B) P :: o90 P :: o91 P :: o92 P :: o93 P :: o94 P :: o95 P :: (hf8B B) P
noncomputable def hf7 (P : Params) : List Obj:=hf7B pwBody P
noncomputable def hf6B (B : List Stmt) (P : Params) : List Obj:=o72 P :: o73 P :: o74 P :: o75 P :: o76 P :: o77 P :: o78 P :: o79 P :: (o80B B) P :: o81 P :: (o82B B) P :: o83 P :: (hf7B B) P
noncomputable def hf6 (P : Params) : List Obj:=hf6B pwBody P
noncomputable def hf5B (B : List Stmt) (P : Params) : List Obj:=o60 P :: o61 P :: o62 P :: o63 P :: o64 P :: o65 P :: o66 P :: o67 P :: o68 P :: o69 P :: o70 P :: o71 P :: (hf6B B) P
noncomputable def hf5 (P : Params) : List Obj:=hf5B pwBody P
noncomputable def hf4B (B : List Stmt) (P : Params) : List Obj:=(o48B B) P :: o49 P :: (o50B B) P :: o51 P :: o52 P :: o53 P :: o54 P :: (o55B B) P :: o56 P :: (o57B B) P :: o58 P :: o59 P :: (hf5B B) P
noncomputable def hf4 (P : Params) : List Obj:=hf4B pwBody P
noncomputable def hf3B (B : List Stmt) (P : Params) : List Obj:=o36 P :: o37 P :: o38 P :: o39 P :: o40 P :: (o41B B) P :: o42 P :: (o43B B) P :: o44 P :: o45 P :: o46 P :: o47 P :: (hf4B B) P
noncomputable def hf3 (P : Params) : List Obj:=hf3B pwBody P
noncomputable def hf2B (B : List Stmt) (P : Params) : List Obj:=o24 P :: o25 P :: o26 P :: o27 P :: o28 P :: o29 P :: o30 P :: o31 P :: o32 P :: (o33B B) P :: o34 P :: (o35B B) P :: (hf3B B) P
noncomputable def hf2 (P : Params) : List Obj:=hf2B pwBody P
noncomputable def hf1B (B : List Stmt) (P : Params) : List Obj:=o12 P :: o13 P :: o14 P :: o15 P :: o16 P :: o17 P :: o18 P :: (o19B B) P :: o20 P :: (o21B B) P :: o22 P :: o23 P :: (hf2B B) P
noncomputable def hf1 (P : Params) : List Obj:=hf1B pwBody P
noncomputable def hf0B (B : List Stmt) (P : Params) : List Obj:=PySem.W.boot_o_0 P :: PySem.W.boot_o_1 P :: PySem.W.boot_o_2 P :: o3 P :: PySem.W.boot_o_4 P :: PySem.W.boot_o_5 P :: PySem.W.boot_o_6 P :: PySem.W.boot_o_7 P :: PySem.W.boot_o_8 P :: PySem.W.boot_o_9 P :: PySem.W.boot_o_10 P :: o11 P :: (hf1B B) P
noncomputable def hf0 (P : Params) : List Obj:=hf0B pwBody P
noncomputable def heapFinB (B : List Stmt) (P : Params) : Heap:=⟨Array.mk ((hf0B B) P),(boot_heap P).life⟩
noncomputable def heapFin (P : Params) : Heap:=heapFinB pwBody P
noncomputable def tf0 (P : Params) : BT:=(.node (o63 P) (.node (o127 P) (.node (o255 P) .nil .nil) .nil) (.node (o191 P) .nil .nil))
noncomputable def tf1B (B : List Stmt) (P : Params) : BT:=(.node (PySem.W.boot_o_7 P) (.node (o15 P) (.node (o31 P) (tf0 P) (.node (o95 P) (.node (o159 P) .nil .nil) (.node ((o223B B) P) .nil .nil))) (.node (o47 P) (.node (o79 P) (.node ((o143B B) P) .nil .nil) (.node (o207 P) .nil .nil)) (.node (o111 P) (.node (o175 P) .nil .nil) (.node ((o239B B) P) .nil .nil)))) (.node (o23 P) (.node (o39 P) (.node (o71 P) (.node (o135 P) .nil .nil) (.node (o199 P) .nil .nil)) (.node (o103 P) (.node ((o167B B) P) .nil .nil) (.node (o231 P) .nil .nil))) (.node ((o55B B) P) (.node ((o87B B) P) (.node (o151 P) .nil .nil) (.node (o215 P) .nil .nil)) (.node ((o119B B) P) (.node (o183 P) .nil .nil) (.node (o247 P) .nil .nil)))))
noncomputable def tf1 (P : Params) : BT:=tf1B pwBody P
noncomputable def tf2B (B : List Stmt) (P : Params) : BT:=(.node (o67 P) (.node (o131 P) (.node ((o259B B) P) .nil .nil) .nil) (.node (o195 P) .nil .nil))
noncomputable def tf2 (P : Params) : BT:=tf2B pwBody P
noncomputable def tf3B (B : List Stmt) (P : Params) : BT:=(.node (o11 P) (.node ((o19B B) P) (.node ((o35B B) P) ((tf2B B) P) (.node (o99 P) (.node (o163 P) .nil .nil) (.node (o227 P) .nil .nil))) (.node (o51 P) (.node (o83 P) (.node (o147 P) .nil .nil) (.node (o211 P) .nil .nil)) (.node (o115 P) (.node ((o179B B) P) .nil .nil) (.node (o243 P) .nil .nil)))) (.node (o27 P) (.node ((o43B B) P) (.node (o75 P) (.node (o139 P) .nil .nil) (.node ((o203B B) P) .nil .nil)) (.node ((o107B B) P) (.node (o171 P) .nil .nil) (.node (o235 P) .nil .nil))) (.node (o59 P) (.node (o91 P) (.node (o155 P) .nil .nil) (.node (o219 P) .nil .nil)) (.node (o123 P) (.node (o187 P) .nil .nil) (.node ((o251B B) P) .nil .nil)))))
noncomputable def tf3 (P : Params) : BT:=tf3B pwBody P
noncomputable def tf4 (P : Params) : BT:=(.node (o65 P) (.node (o129 P) (.node (o257 P) .nil .nil) .nil) (.node (o193 P) .nil .nil))
noncomputable def tf5B (B : List Stmt) (P : Params) : BT:=(.node (PySem.W.boot_o_9 P) (.node (o17 P) (.node ((o33B B) P) (tf4 P) (.node (o97 P) (.node (o161 P) .nil .nil) (.node ((o225B B) P) .nil .nil))) (.node (o49 P) (.node (o81 P) (.node ((o145B B) P) .nil .nil) (.node (o209 P) .nil .nil)) (.node (o113 P) (.node (o177 P) .nil .nil) (.node ((o241B B) P) .nil .nil)))) (.node (o25 P) (.node ((o41B B) P) (.node (o73 P) (.node (o137 P) .nil .nil) (.node ((o201B B) P) .nil .nil)) (.node ((o105B B) P) (.node (o169 P) .nil .nil) (.node (o233 P) .nil .nil))) (.node ((o57B B) P) (.node ((o89B B) P) (.node (o153 P) .nil .nil) (.node (o217 P) .nil .nil)) (.node ((o121B B) P) (.node (o185 P) .nil .nil) (.node ((o249B B) P) .nil .nil)))))
noncomputable def tf5 (P : Params) : BT:=tf5B pwBody P
noncomputable def tf6B (B : List Stmt) (P : Params) : BT:=(.node (o69 P) (.node (o133 P) (.node ((o261B B) P) .nil .nil) .nil) (.node (o197 P) .nil .nil))
noncomputable def tf6 (P : Params) : BT:=tf6B pwBody P
noncomputable def tf7B (B : List Stmt) (P : Params) : BT:=(.node (o13 P) (.node ((o21B B) P) (.node (o37 P) ((tf6B B) P) (.node (o101 P) (.node ((o165B B) P) .nil .nil) (.node (o229 P) .nil .nil))) (.node (o53 P) (.node (o85 P) (.node (o149 P) .nil .nil) (.node (o213 P) .nil .nil)) (.node (o117 P) (.node ((o181B B) P) .nil .nil) (.node (o245 P) .nil .nil)))) (.node (o29 P) (.node (o45 P) (.node (o77 P) (.node (o141 P) .nil .nil) (.node (o205 P) .nil .nil)) (.node (o109 P) (.node (o173 P) .nil .nil) (.node ((o237B B) P) .nil .nil))) (.node (o61 P) (.node (o93 P) (.node (o157 P) .nil .nil) (.node (o221 P) .nil .nil)) (.node (o125 P) (.node (o189 P) .nil .nil) (.node (o253 P) .nil .nil)))))
noncomputable def tf7 (P : Params) : BT:=tf7B pwBody P
noncomputable def tf8B (B : List Stmt) (P : Params) : BT:=(.node (o64 P) (.node (o128 P) (.node ((o256B B) P) .nil .nil) .nil) (.node (o192 P) .nil .nil))
noncomputable def tf8 (P : Params) : BT:=tf8B pwBody P
noncomputable def tf9B (B : List Stmt) (P : Params) : BT:=(.node (PySem.W.boot_o_8 P) (.node (o16 P) (.node (o32 P) ((tf8B B) P) (.node (o96 P) (.node ((o160B B) P) .nil .nil) (.node (o224 P) .nil .nil))) (.node ((o48B B) P) (.node ((o80B B) P) (.node (o144 P) .nil .nil) (.node ((o208B B) P) .nil .nil)) (.node ((o112B B) P) (.node (o176 P) .nil .nil) (.node (o240 P) .nil .nil)))) (.node (o24 P) (.node (o40 P) (.node (o72 P) (.node (o136 P) .nil .nil) (.node (o200 P) .nil .nil)) (.node (o104 P) (.node (o168 P) .nil .nil) (.node ((o232B B) P) .nil .nil))) (.node (o56 P) (.node (o88 P) (.node (o152 P) .nil .nil) (.node ((o216B B) P) .nil .nil)) (.node (o120 P) (.node (o184 P) .nil .nil) (.node (o248 P) .nil .nil)))))
noncomputable def tf9 (P : Params) : BT:=tf9B pwBody P
noncomputable def tf10B (B : List Stmt) (P : Params) : BT:=(.node (o68 P) (.node (o132 P) (.node (o260 P) .nil .nil) .nil) (.node ((o196B B) P) .nil .nil))
noncomputable def tf10 (P : Params) : BT:=tf10B pwBody P
noncomputable def tf11B (B : List Stmt) (P : Params) : BT:=(.node (o12 P) (.node (o20 P) (.node (o36 P) ((tf10B B) P) (.node ((o100B B) P) (.node (o164 P) .nil .nil) (.node (o228 P) .nil .nil))) (.node (o52 P) (.node (o84 P) (.node ((o148B B) P) .nil .nil) (.node (o212 P) .nil .nil)) (.node (o116 P) (.node (o180 P) .nil .nil) (.node (o244 P) .nil .nil)))) (.node (o28 P) (.node (o44 P) (.node (o76 P) (.node (o140 P) .nil .nil) (.node (o204 P) .nil .nil)) (.node (o108 P) (.node ((o172B B) P) .nil .nil) (.node (o236 P) .nil .nil))) (.node (o60 P) (.node (o92 P) (.node (o156 P) .nil .nil) (.node (o220 P) .nil .nil)) (.node (o124 P) (.node ((o188B B) P) .nil .nil) (.node (o252 P) .nil .nil)))))
noncomputable def tf11 (P : Params) : BT:=tf11B pwBody P
noncomputable def tf12B (B : List Stmt) (P : Params) : BT:=(.node (o66 P) (.node (o130 P) (.node (o258 P) .nil .nil) .nil) (.node ((o194B B) P) .nil .nil))
noncomputable def tf12 (P : Params) : BT:=tf12B pwBody P
noncomputable def tf13B (B : List Stmt) (P : Params) : BT:=(.node (PySem.W.boot_o_10 P) (.node (o18 P) (.node (o34 P) ((tf12B B) P) (.node ((o98B B) P) (.node (o162 P) .nil .nil) (.node (o226 P) .nil .nil))) (.node ((o50B B) P) (.node ((o82B B) P) (.node (o146 P) .nil .nil) (.node ((o210B B) P) .nil .nil)) (.node ((o114B B) P) (.node (o178 P) .nil .nil) (.node (o242 P) .nil .nil)))) (.node (o26 P) (.node (o42 P) (.node (o74 P) (.node (o138 P) .nil .nil) (.node (o202 P) .nil .nil)) (.node (o106 P) (.node (o170 P) .nil .nil) (.node (o234 P) .nil .nil))) (.node (o58 P) (.node (o90 P) (.node (o154 P) .nil .nil) (.node ((o218B B) P) .nil .nil)) (.node (o122 P) (.node ((o186B B) P) .nil .nil) (.node (o250 P) .nil .nil)))))
noncomputable def tf13 (P : Params) : BT:=tf13B pwBody P
noncomputable def tf14B (B : List Stmt) (P : Params) : BT:=(.node (o14 P) (.node (o22 P) (.node (o38 P) (.node (o70 P) (.node (o134 P) .nil .nil) (.node (o198 P) .nil .nil)) (.node (o102 P) (.node (o166 P) .nil .nil) (.node ((o230B B) P) .nil .nil))) (.node (o54 P) (.node (o86 P) (.node (o150 P) .nil .nil) (.node (o214 P) .nil .nil)) (.node (o118 P) (.node (o182 P) .nil .nil) (.node (o246 P) .nil .nil)))) (.node (o30 P) (.node (o46 P) (.node (o78 P) (.node (o142 P) .nil .nil) (.node (o206 P) .nil .nil)) (.node (o110 P) (.node ((o174B B) P) .nil .nil) (.node (o238 P) .nil .nil))) (.node (o62 P) (.node (o94 P) (.node ((o158B B) P) .nil .nil) (.node (o222 P) .nil .nil)) (.node (o126 P) (.node (o190 P) .nil .nil) (.node ((o254B B) P) .nil .nil)))))
noncomputable def tf14 (P : Params) : BT:=tf14B pwBody P
noncomputable def treeFinB (B : List Stmt) (P : Params) : BT:=(.node (PySem.W.boot_o_0 P) (.node (PySem.W.boot_o_1 P) (.node (o3 P) ((tf1B B) P) ((tf3B B) P)) (.node (PySem.W.boot_o_5 P) ((tf5B B) P) ((tf7B B) P))) (.node (PySem.W.boot_o_2 P) (.node (PySem.W.boot_o_4 P) ((tf9B B) P) ((tf11B B) P)) (.node (PySem.W.boot_o_6 P) ((tf13B B) P) ((tf14B B) P))))
noncomputable def treeFin (P : Params) : BT:=treeFinB pwBody P
noncomputable def frag (P : Params) : Frag:=[(1,PySem.W.boot_o_1 P),(2,PySem.W.boot_o_2 P),(3,o3 P),(4,PySem.W.boot_o_4 P),(15,o15 P),(17,o17 P),(18,o18 P),(20,o20 P),(21,o21 P),(29,o29 P),(31,o31 P),(32,o32 P),(34,o34 P),(35,o35 P),(36,o36 P),(37,o37 P),(39,o39 P),(40,o40 P),(42,o42 P),(43,o43 P),(44,o44 P),(46,o46 P),(47,o47 P),(49,o49 P),(50,o50 P),(51,o51 P),(53,o53 P),(54,o54 P),(56,o56 P),(57,o57 P),(58,o58 P),(59,o59 P),(60,o60 P),(61,o61 P),(62,o62 P),(65,o65 P),(68,o68 P),(73,o73 P),(74,o74 P),(75,o75 P),(76,o76 P),(78,o78 P),(79,o79 P),(81,o81 P),(82,o82 P),(83,o83 P),(85,o85 P),(86,o86 P),(88,o88 P),(89,o89 P),(90,o90 P),(91,o91 P),(92,o92 P),(93,o93 P),(94,o94 P),(96,o96 P),(97,o97 P),(99,o99 P),(100,o100 P),(101,o101 P),(103,o103 P),(104,o104 P),(106,o106 P),(107,o107 P),(108,o108 P),(110,o110 P),(111,o111 P),(113,o113 P),(114,o114 P),(115,o115 P),(117,o117 P),(118,o118 P),(120,o120 P),(121,o121 P),(122,o122 P),(123,o123 P),(124,o124 P),(126,o126 P),(127,o127 P),(129,o129 P),(130,o130 P),(132,o132 P),(134,o134 P),(135,o135 P),(136,o136 P),(139,o139 P),(141,o141 P),(142,o142 P),(144,o144 P),(145,o145 P),(153,o153 P),(154,o154 P),(156,o156 P),(157,o157 P),(159,o159 P),(160,o160 P),(161,o161 P),(163,o163 P),(164,o164 P),(166,o166 P),(167,o167 P),(168,o168 P),(170,o170 P),(171,o171 P),(173,o173 P),(174,o174 P),(175,o175 P),(177,o177 P),(178,o178 P),(180,o180 P),(181,o181 P),(182,o182 P),(184,o184 P),(185,o185 P),(187,o187 P),(188,o188 P),(189,o189 P),(190,o190 P),(192,o192 P),(193,o193 P),(195,o195 P),(196,o196 P),(197,o197 P),(199,o199 P),(200,o200 P),(202,o202 P),(203,o203 P),(204,o204 P),(206,o206 P),(207,o207 P),(209,o209 P),(210,o210 P),(211,o211 P),(212,o212 P),(214,o214 P),(215,o215 P),(217,o217 P),(218,o218 P),(219,o219 P),(221,o221 P),(222,o222 P),(224,o224 P),(225,o225 P),(226,o226 P),(228,o228 P),(229,o229 P),(231,o231 P),(232,o232 P),(233,o233 P),(235,o235 P),(236,o236 P),(238,o238 P),(239,o239 P),(240,o240 P),(241,o241 P),(242,o242 P),(243,o243 P),(244,o244 P),(247,o247 P),(250,o250 P),(251,o251 P),(252,o252 P),(255,o255 P),(256,o256 P),(257,o257 P),(260,o260 P),(261,o261 P)]
noncomputable def fragAt : List Addr:=[1,2,3,4,15,17,18,20,21,29,31,32,34,35,36,37,39,40,42,43,44,46,47,49,50,51,53,54,56,57,58,59,60,61,62,65,68,73,74,75,76,78,79,81,82,83,85,86,88,89,90,91,92,93,94,96,97,99,100,101,103,104,106,107,108,110,111,113,114,115,117,118,120,121,122,123,124,126,127,129,130,132,134,135,136,139,141,142,144,145,153,154,156,157,159,160,161,163,164,166,167,168,170,171,173,174,175,177,178,180,181,182,184,185,187,188,189,190,192,193,195,196,197,199,200,202,203,204,206,207,209,210,211,212,214,215,217,218,219,221,222,224,225,226,228,229,231,232,233,235,236,238,239,240,241,242,243,244,247,250,251,252,255,256,257,260,261]
noncomputable def fragL (P : Params) : Frag:=frag P ++ [(258,o258 P)]
noncomputable def fragAtL : List Addr:=fragAt ++ [258]
noncomputable def annV : Option Value:=(some (.ref 6))
noncomputable def envTop : Env:={ scope:=PySem.Challenge.pw_dm0052_03.main.scope,locals:=mainNs,globals:=mainNs,cells:=[],code:=(.ref 13),frame:=some 14 }
noncomputable def envQ : Env:={ scope:=TW.main.scope,locals:=mainNs,globals:=mainNs,cells:=[],code:=(.ref 13),frame:=some 14 }
theorem envEq : envTop = envQ:=by
 unfold envTop envQ
 rw [pwTW]
noncomputable def viewP : Program:={ PySem.Challenge.pw_dm0052_03 with main:={ PySem.Challenge.pw_dm0052_03.main with body:=[0,2,3,4,5,7,8,9].map (stN pwBody) } }
noncomputable def looseN : List Str:=[ofString "_tuplegetter",ofString "Match",ofString "SequenceMatcher"]
theorem bodyEq : pwBody = twBody:=by
 unfold pwBody twBody
 rw [pwTW]
theorem segAll (w : World) (os : OsState) : segRunT treeTable PySem.Challenge.pw_dm0052_03 w 11 annV 1 2173 (⟨treePre w.params,15,(boot_heap w.params).life,Array.mk [],boot_drawn,187,os⟩ : SharedT) (piecesOf (behindTheImports PySem.Challenge.pw_dm0052_03) envTop (Code.body (behindTheImports PySem.Challenge.pw_dm0052_03) envTop) ⟨0,0,0,0⟩ [topFrame ⟨0,0,0,0⟩]) = some (.next,(⟨treeFin w.params,262,(boot_heap w.params).life,Array.mk [],boot_drawn,595,os⟩ : SharedT),(Code.body (behindTheImports PySem.Challenge.pw_dm0052_03) envTop),⟨433,0,467,83⟩):=by
 unfold treeFin
 rw [bodyEq,PySem.W.Fast.te10110043849684766642,tabOf_eq,pwTW,envEq]
 delta PySem.W.Fast.tw4202317264376624991
 rw [anyQ_eq]
 kernel_rfl!
theorem preRun (w : World) (os : OsState) : topGo treeTable PySem.Challenge.pw_dm0052_03 w 11 annV 12 (⟨boot_heap w.params,Array.mk [],boot_drawn,boot_toks,os⟩ : Shared) (topStub PySem.Challenge.pw_dm0052_03) = some ((⟨heapPre w.params,Array.mk [],boot_drawn,187,os⟩ : Shared),⟨denote treeTable (Code.body (behindTheImports PySem.Challenge.pw_dm0052_03) envTop),(Code.body (behindTheImports PySem.Challenge.pw_dm0052_03) envTop),⟨0,0,0,0⟩,[topFrame ⟨0,0,0,0⟩]⟩):=by
 rw [PySem.W.Fast.te15667345088766844465,PySem.W.Fast.te11892475500146522536,PySem.W.Fast.te14364793385576792824,pwTW,envEq]
 kernel_rfl!
theorem blockRun (w : World) (os : OsState) : segRun treeTable PySem.Challenge.pw_dm0052_03 w 11 annV 1 1 (⟨heapPre w.params,Array.mk [],boot_drawn,187,os⟩ : Shared) (blockOf (behindTheImports PySem.Challenge.pw_dm0052_03) envTop (Code.body (behindTheImports PySem.Challenge.pw_dm0052_03) envTop) ⟨0,0,0,0⟩ [topFrame ⟨0,0,0,0⟩]) = some (.next,(⟨treePre w.params,15,(boot_heap w.params).life,Array.mk [],boot_drawn,187,os⟩ : SharedT).abs,(Code.body (behindTheImports PySem.Challenge.pw_dm0052_03) envTop),⟨0,0,0,0⟩):=by
 rw [PySem.W.Fast.te14374325043358763698,PySem.W.Fast.te14364793385576792824,pwTW,envEq]
 kernel_rfl!
theorem finRun (w : World) (os : OsState) : topRun treeTable PySem.Challenge.pw_dm0052_03 w 11 annV 2 (⟨treeFin w.params,262,(boot_heap w.params).life,Array.mk [],boot_drawn,595,os⟩ : SharedT).abs ⟨doneF .next,(Code.body (behindTheImports PySem.Challenge.pw_dm0052_03) envTop),⟨433,0,467,83⟩,[topFrame ⟨0,0,0,0⟩]⟩ = some (⟨heapFin w.params,Array.mk [],boot_drawn,595,os⟩ : Shared):=by
 rw [PySem.W.Fast.te14082659384304107361,PySem.W.Fast.te14364793385576792824,pwTW,envEq]
 kernel_rfl!
theorem topAll (w : World) (os : OsState) : topRun treeTable PySem.Challenge.pw_dm0052_03 w 11 annV (12 + (1 + (2173 + 2))) (⟨boot_heap w.params,Array.mk [],boot_drawn,boot_toks,os⟩ : Shared) (topStub PySem.Challenge.pw_dm0052_03) = some (⟨heapFin w.params,Array.mk [],boot_drawn,595,os⟩ : Shared):=by
 refine go_top (preRun w os) (piece_block (blockRun w os) ?_)
 have k:=piece_app (rest:=[]) (segRun_of (segAll w os)) (piece_nil (finRun w os))
 rw [List.append_nil] at k
 exact k
theorem opened : ∀ w : World,(fencedOpening treeTable PySem.Challenge.pw_dm0052_03 w 4470).map (fun s=>(s.heap,s.gens,s.drawn,s.toks)) = some (boot_heap w.params,Array.mk [],boot_drawn,boot_toks) :=
 boot_open (by kernel_rfl!) (by decide) (fun s=>by kernel_rfl!)
theorem sized : ∀ w : World,((boot_heap w.params).isNs mainGlobals && (Array.mk [] : Array GenState).size == 0,(boot_heap w.params).objs.size,(boot_heap w.params).nsMap mainGlobals "__annotations__") = (true,11,annV):=fun w=>by kernel_rfl!
theorem fragAll : ∀ P,fragAt = (frag P).map (·.1):=fun P=>by kernel_rfl!
theorem fragAllL : ∀ P,fragAtL = (fragL P).map (·.1):=fun P=>by kernel_rfl!
theorem look1 (w : World) (os : OsState) : (staticsOk (importedModules PySem.Challenge.pw_dm0052_03.main.body) (boot_heap w.params) (heapFin w.params) && namesBound PySem.Challenge.pw_dm0052_03 (heapFin w.params) && gensDone (⟨heapFin w.params,Array.mk [],boot_drawn,595,os⟩ : Shared) && laidKept (boot_heap w.params) (heapFin w.params)) = true:=by
 rw [pwTW]
 kernel_rfl!
theorem look2 (w : World) (os : OsState) : openSeen viewP looseN (importedModules PySem.Challenge.pw_dm0052_03.main.body) (fun s=>xlAt viewP [] s && recOk [] s) true (⟨heapFin w.params,Array.mk [],boot_drawn,595,os⟩ : Shared) = openGood viewP looseN:=by
 rw [PySem.W.Fast.te4187177175401517315,pwTW]
 kernel_rfl!
theorem look3 (w : World) (os : OsState) : fragAtL.map (⟨heapFin w.params,Array.mk [],boot_drawn,595,os⟩ : Shared).heap.get? = (fragL w.params).map fun p=>some p.2:=by
 kernel_rfl!
theorem left : LeftO PySem.Challenge.pw_dm0052_03 viewP looseN (fun s=>xlAt viewP [] s && recOk [] s) (kHook fragL fragAtL fragAllL).obs (kHook fragL fragAtL fragAllL).val 4470 :=
 LeftO.of_pieces opened sized topAll (by decide) (fun w=>funext fun os=>looks_pair (look1 w os) (looks_pair (look2 w os) (look3 w os)))
end Mine
end
section
set_option compiler.extract_closed false
namespace Mine
open Lean
def wN (k : Name) (c : List Syntax) : Syntax := .node .none k c.toArray
def wK (k : String) (c : List Syntax) : Syntax:=wN (.str `Lean.Parser.Tactic k) c
def wS (c : List Syntax) : Syntax:=wK "tacticSeq" [wK "tacticSeq1Indented" [wN `null c]]
def wI (s : String) : Syntax := .ident .none s.toRawSubstring s.toName []
def wO (c : List Syntax) : Syntax:=wK "optConfig" [wN `null c]
def wQ (k o : String) : Syntax:=wK k [.atom .none k,wO [wK "configItem" [wK "posConfigItem" [.atom .none "+",wI o]]]]
def wStep (st : List Syntax) (t : String) : List Syntax :=
 let A:=Syntax.atom SourceInfo.none
 let c:=String.Pos.Raw.get t 0
 let u:=String.ofList (t.toList.drop 1)
 let x:=st.headD .missing
 let r:=st.tail
 if c == '.' then wI u :: st
 else if c == '@' then wN `PyProof.Rows.tacticWalk_at_ [A "walk_at ",wN `str [A ("\"" ++ u ++ "\"")]] :: st
 else if c == '=' then wK u [A u] :: st
 else if c == 'k' then wN `PyProof.Rows.tacticKernel_rfl! [A "kernel_rfl!"] :: st
 else if c == 'd' then wQ "decide" "kernel" :: st
 else if c == 'q' then wQ "omega" "splitDisjunctions" :: st
 else if c == 's' then wK "simp" (A "simp" :: wO [] :: List.replicate 4 (wN `null [])) :: st
 else if c == 'b' then wN `Lean.Parser.Term.byTactic [A "by",wS [x]] :: r
 else if c == '_' then wN `Lean.Parser.Term.syntheticHole [A "?",A "_"] :: st
 else if c == 'h' then wN `Lean.Parser.Term.hole [A "_"] :: st
 else if c == '>' then wK u [A u,x] :: r
 else if c == '~' then wK u [A u,wO []] :: st
 else if c == 'R' then wK "withReducible" [A "with_reducible",wS [x]] :: r
 else if c == ';' then wK "paren" [A "(",wS [r.headD .missing,A ";",x],A ")"] :: r.tail
 else if c == '|' then [wK "first" [A "first",wN `null (st.reverse.map fun y=>wN `group [A "|",wS [y]])]]
 else let n:=c.toNat - 48
  wN `Lean.Parser.Term.app [st.getD n .missing,wN `null (st.take n).reverse] :: st.drop (n + 1)
def wTbl : List (String × String):=[("look", "=assumption .upd_here >exact R .upd_next d b _ 2 >refine R @look ; |"),("mem", ".List.mem_cons_self >exact R .List.mem_cons_of_mem h _ 2 >refine R @mem ; .List.mem_append_left h _ 2 >refine R @mem ; .List.mem_append_right h _ 2 >refine R @mem ; |"),("ms", "@mem s |"),("lo", "=assumption .Loc.of =assumption b @ms b 2 >exact |"),("nm", ".T.Name =assumption b =assumption b @look b _ @lo b d b 6 >refine"),("np", ".TP.of .T.Name =assumption b =assumption b @look b _ @lo b d b 6 1 >refine"),("lk", ".look_here >exact R .look_next d b _ 2 >refine R @lk ; |"),("sb", ".sub_nil >exact R .sub_cons @lk b _ 2 >refine R @sb ; |"),("cc", ".cctx_nil >exact R .cctx_cons @lk b k b .rfl _ 4 >refine R @cc ; |"),("en", ".E.name =assumption b @lk b d b 3 >exact .E.nameL =assumption b @lk b d b 3 >exact .E.nameO =assumption b @lk b d b 3 >exact .E.cInt >exact .E.cBool >exact |"),("ld", ".Sto.loc =assumption b k b 2 >exact .Sto.cell =assumption b =assumption b k b k b 4 >exact |"),("bn", ".E.bnW =assumption b =assumption b =assumption b k b k b k b d b d b 8 >exact .E.bn =assumption b =assumption b =assumption b k b k b k b d b d b 8 >exact |"),("gl", ".E.glW =assumption b =assumption b =assumption b k b k b d b 6 >exact"),("ek", ".E h h h .PV.int h 1 4 >show @en ;"),("om", "@ar ~lia q |")]
def wAr : List Syntax:=("12211112111222221233342222122112112332321111111991211121221122223122122111101211122121112213232132021102322312311".toList.zipIdx.map fun (c,i)=>(wStep (wStep (List.replicate (c.toNat - 48) ((["=assumption", "b"].foldl wStep []).headD .missing) ++ [wI ("ar" ++ toString (i + 1))]) c.toString) ">exact").headD .missing)
def wMac (s : String) : MacroM Syntax :=
 if s == "ar" then pure ((wStep (wStep (wAr.reverse ++ wStep [] "=assumption") "|") "R").headD .missing)
 else match wTbl.lookup s with
  | some p=>pure (((p.splitToList (· == ' ')).foldl wStep []).headD .missing)
  | none=>Macro.throwUnsupported
end Mine
end
local macro_rules | `(tactic| walk_at $s:str) => Mine.wMac s.getString
local macro_rules | `(tactic| omega) => Mine.wMac "om"
section
namespace Mine
theorem ar1 {k : Nat} (h : 1 ≤ k) : k - 1 < k:=Nat.sub_lt h Nat.one_pos
theorem ar2 {k n : Nat} (h : 1 ≤ k) (g : k ≤ n) : k - 1 < n:=Nat.lt_of_lt_of_le (ar1 h) g
theorem ar3 {k n : Nat} (h : 2 ≤ k) (g : k ≤ n) : k - 1 < n:=ar2 (Nat.le_of_succ_le h) g
theorem ar4 {k n : Nat} (g : k ≤ n) : k - 1 ≤ n:=Nat.le_trans (Nat.sub_le _ _) g
theorem ar5 {n : Nat} (h : 2 ≤ n) : 1 ≤ n - 1:=Nat.le_sub_one_of_lt h
theorem ar6 {n : Nat} (h : 2 ≤ n) : n - 1 - 1 < n - 1:=ar1 (ar5 h)
theorem ar7 {n k : Nat} (h : k ≤ n) : k + (n - k) = n:=Nat.add_sub_cancel' h
theorem ar8 {n k m : Nat} (h : k ≤ n) (g : n ≤ m) : k + (n - k) ≤ m:=(ar7 h).symm ▸ g
theorem ar9 {n k : Nat} (h : k + 1 < n) : k + (n - k) ≤ n:=Nat.le_of_eq (ar7 (Nat.le_of_lt (Nat.lt_of_succ_lt h)))
theorem ar10 {n k j : Nat} (h : j < n - k) : k + j < n:=Nat.add_lt_of_lt_sub' h
theorem ar11 {n k : Nat} (h : k + 1 < n) : 0 < n - k:=Nat.sub_pos_of_lt (Nat.lt_of_succ_lt h)
theorem ar12 {n k j : Nat} (g : k + 1 < n) (h : j ≤ n - k) : k + j ≤ n:=Nat.add_le_of_le_sub' (Nat.le_of_lt (Nat.lt_of_succ_lt g)) h
theorem ar13 {n k : Nat} (h : k < n) (g : ¬ k + 1 = n) : k + 1 < n:=Nat.lt_of_le_of_ne h g
theorem ar14 {n k : Nat} (h : k < n) (g : k + 1 ≠ n) : k + 1 < n:=Nat.lt_of_le_of_ne h g
theorem ar16 {n k : Nat} (h : k < n) (g : k + 1 ≠ n) : 0 < n - (k + 1):=Nat.sub_pos_of_lt (ar14 h g)
theorem ar17 {n k : Nat} (h : k < n) : k + 1 + (n - (k + 1)) ≤ n:=Nat.le_of_eq (ar7 h)
theorem ar18 {n k j : Nat} (h : k < n) (g : j ≤ n - (k + 1)) : k + 1 + j ≤ n:=Nat.add_le_of_le_sub' h g
theorem ar19 {n k j : Nat} (h : k < n) (g : j ≤ n - (k + 1)) (e : k + 1 + j ≠ n) : k + 1 + j < n:=Nat.lt_of_le_of_ne (ar18 h g) e
theorem ar20 {n k j : Nat} (h : k < n) (g : j ≤ n - (k + 1)) (e : k + 1 + j ≠ n) : j < n - (k + 1):=Nat.lt_sub_of_add_lt (Nat.add_comm (k + 1) j ▸ ar19 h g e)
theorem ar21 {n k j : Nat} (h : k + 1 < n) (g : j ≤ n - k) (e : k + j ≠ n) : j < n - k:=Nat.lt_sub_of_add_lt (Nat.add_comm k j ▸ Nat.lt_of_le_of_ne (ar12 h g) e)
theorem ar22 {n k j : Nat} (h : k + 1 < n) (g : j ≤ n - k) (e : k + j ≠ n) (f : k + j + 1 ≠ n) : k + j + 1 < n:=Nat.lt_of_le_of_ne (Nat.lt_of_le_of_ne (ar12 h g) e) f
theorem ar23 {n k : Nat} (h : k ≤ n) (g : ¬ n - k > 0) : k = n:=Nat.le_antisymm h (Nat.sub_eq_zero_iff_le.mp (Nat.eq_zero_of_not_pos g))
theorem ar24 {n : Nat} (h : 2 ≤ n) (g : ¬ n - 1 = 1) : 2 ≤ n - 1:=Nat.lt_of_le_of_ne (ar5 h) (Ne.symm g)
theorem ar26 {n m : Nat} (h : 1 ≤ n) (g : m + 1 = n) : n - 1 = m:=by rw [← g]; rfl
theorem ar27 {i j k : Nat} (h : i ≤ j) : k + i ≤ k + j:=Nat.add_le_add_left h k
theorem ar28 {i j n : Nat} (h : i ≤ j) (g : j < n) : i < n:=Nat.lt_of_le_of_lt h g
theorem ar29 {i j n : Nat} (h : i < j) (g : j ≤ n) : i < n:=Nat.lt_of_lt_of_le h g
theorem ar30 {i n : Nat} (h : i + 1 < n) : i < n:=Nat.lt_of_succ_lt h
theorem ar31 {i n : Nat} (h : i < n) : i ≤ n:=Nat.le_of_lt h
theorem ar32 {i j n : Nat} (h : i ≤ j) (g : j ≤ n) : i ≤ n:=Nat.le_trans h g
theorem ar33 {i n m : Nat} (h : i < min n m) : i < n:=Nat.lt_of_lt_of_le h (Nat.min_le_left _ _)
theorem ar34 {i n m : Nat} (h : i < min m n) : i < n:=Nat.lt_of_lt_of_le h (Nat.min_le_right _ _)
theorem ar35 {b n h m : Nat} (g : b + n ≤ m) (e : h < n) : b + h < m:=Nat.lt_of_lt_of_le (Nat.add_lt_add_left e b) g
theorem ar36 {b n h m q : Nat} (g : b + n ≤ m) (e : h < n) (f : q = m) : b + h < q:=f ▸ ar35 g e
theorem ar37 {b n h m q : Nat} (g : b + n ≤ m) (e : h ≤ n) (f : q = m) : b + h ≤ q:=f ▸ Nat.le_trans (Nat.add_le_add_left e b) g
theorem ar38 {b n h m : Nat} (g : b + n ≤ m) (e : h ≤ n) : b + h ≤ m:=Nat.le_trans (Nat.add_le_add_left e b) g
theorem ar40 {n m : Nat} (e : n ≤ m) (f : ¬ (n == m) = true) : n + 1 ≤ m:=Nat.lt_of_le_of_ne e fun z=>f (beq_iff_eq.mpr z)
theorem ar41 {n : Nat} (h : 1 ≤ n) : n - 1 + 1 = n:=Nat.sub_add_cancel h
theorem ar42 {x y n : Nat} (h : x ≤ y) : n - 1 - y ≤ n - 1 - x:=Nat.sub_le_sub_left h _
theorem ar43 {lo n : Nat} (h : 1 ≤ n) : lo + (n - 1) = lo + n - 1:=(Nat.add_sub_assoc h lo).symm
theorem ar45 {n k : Nat} (h : k ≤ n) : n - k ≤ n:=Nat.sub_le _ _
theorem ar46 {n k : Nat} (h : k + 1 ≤ n) : n - (k + 1) ≤ n - 1:=Nat.sub_le_sub_left (Nat.succ_le_succ (Nat.zero_le k)) n
theorem ar47 {lo n k : Nat} (h : k + 1 ≤ n) : lo + n - (k + 1) = lo + (n - (k + 1)):=Nat.add_sub_assoc h lo
theorem ar50 {a lo n y : Nat} (h : y < n) : a + (lo + n) - 1 - (lo + y) = a + (n - 1 - y):=by
 rw [Nat.sub_sub,Nat.add_left_comm a lo n,Nat.add_left_comm 1 lo y,Nat.add_sub_add_left,Nat.add_sub_assoc (Nat.add_comm 1 y ▸ h),← Nat.sub_sub]
theorem ar51 {a lo n x y : Nat} (h : x ≤ y) (g : y < n) : a + (lo + n) - 1 - (lo + x) = a + (n - 1 - x):=ar50 (Nat.lt_of_le_of_lt h g)
theorem ar52 {a m lo n y : Nat} (h : y < n) : a + m + (lo + n) - 1 - (lo + y) = a + (m + (n - 1 - y)):=(ar50 h).trans (Nat.add_assoc _ _ _)
theorem ar53 {a lo n q : Nat} (h : q + 1 ≤ n) : a + (lo + n) - 1 - (lo + n - 1) = a:=by
 rw [Nat.add_sub_assoc (Nat.le_trans (Nat.le_trans (Nat.le_add_left 1 q) h) (Nat.le_add_left n lo)) a,Nat.add_sub_cancel]
theorem ar54 {n x lo hi m : Nat} (h : hi - lo ≤ n - x) : hi - (lo + m + 1) ≤ n - (x + 1):=by
 rw [Nat.add_assoc,Nat.sub_add_eq,Nat.sub_add_eq]; exact Nat.le_trans (Nat.sub_le_sub_left (Nat.le_add_left 1 m) _) (Nat.sub_le_sub_right h 1)
theorem ar55 {n x lo hi : Nat} (h : hi - lo ≤ n - x) (g : lo < hi) : lo + (hi - lo) / 2 - lo ≤ n - (x + 1):=by
 rw [Nat.add_sub_cancel_left,Nat.sub_add_eq]; exact Nat.le_sub_one_of_lt (Nat.lt_of_lt_of_le (Nat.div_lt_self (Nat.sub_pos_of_lt g) (by decide)) h)
theorem ar56 {lo hi : Nat} (g : lo < hi) : lo + (hi - lo) / 2 + 1 ≤ hi:=Nat.lt_of_lt_of_le (Nat.add_lt_add_left (Nat.div_lt_self (Nat.sub_pos_of_lt g) (by decide)) lo) (Nat.le_of_eq (Nat.add_sub_cancel' (Nat.le_of_lt g)))
theorem ar57 {lo hi n : Nat} (h : hi ≤ n) (g : lo < hi) : lo + (hi - lo) / 2 < n:=Nat.lt_of_lt_of_le (ar56 g) h
theorem ar58 {lo hi n : Nat} (h : hi ≤ n) (g : lo < hi) : lo + (hi - lo) / 2 ≤ n:=Nat.le_of_lt (ar57 h g)
theorem ar59 {l r : Nat} (g : ¬ l ≥ r) : l ≤ (l + r) / 2:=by lia
theorem ar60 {l r : Nat} (g : ¬ l ≥ r) : (l + r) / 2 + 1 ≤ r:=by lia
theorem ar61 {l r k : Nat} (h : r ≤ k) (g : ¬ l ≥ r) : (l + r) / 2 < k:=Nat.lt_of_lt_of_le (ar60 g) h
theorem ar62 {l r k : Nat} (h : r ≤ k) (g : ¬ l ≥ r) : (l + r) / 2 ≤ k:=Nat.le_of_lt (ar61 h g)
theorem ar63 {l r k x : Nat} (h : r - l ≤ k - x) (g : ¬ l ≥ r) : r - ((l + r) / 2 + 1) ≤ k - (x + 1):=by
 refine Nat.le_trans (Nat.sub_le_sub_left (Nat.succ_le_succ (ar59 g)) r) ?_
 rw [Nat.sub_add_eq k]; exact Nat.sub_le_sub_right h 1
theorem ar64 {l r k x : Nat} (h : r - l ≤ k - x) (g : ¬ l ≥ r) : (l + r) / 2 - l ≤ k - (x + 1):=by
 rw [Nat.sub_add_eq k]; exact Nat.le_sub_one_of_lt (Nat.lt_of_lt_of_le (Nat.sub_lt_sub_right (ar59 g) (ar60 g)) h)
theorem ar65 {n k m : Nat} (h : 2 ≤ n) (g : n ≤ m) (f : k ≤ n - 1) : k + (n - 1 - k) ≤ m:=ar8 f (ar4 g)
theorem ar66 {i j h : Nat} (g : i < j) : h + 1 - min j (h + 1) ≤ h - i:=by
 rcases Nat.le_total j (h + 1) with c | c
 ·rw [Nat.min_eq_left c]; exact Nat.le_trans (Nat.sub_le_sub_left g _) (Nat.le_of_eq (Nat.add_sub_add_right h 1 i))
 ·rw [Nat.min_eq_right c,Nat.sub_self]; exact Nat.zero_le _
theorem ar67 {h n l j : Nat} (g : h + l < n) (f : l < j) : h + l + 1 ≤ h + min j (n - h):=Nat.add_le_add_left (Nat.le_min.mpr ⟨f,Nat.lt_sub_of_add_lt (Nat.add_comm h l ▸ g)⟩) h
theorem ar68 {i h j : Nat} (g : i < h + 1 - min j (h + 1)) (f : j < h + 1) : i < h - j + 1:=by
 rw [Nat.min_eq_left (Nat.le_of_lt f),Nat.sub_add_comm (Nat.le_of_lt_succ f)] at g; exact g
theorem ar69 {h n j : Nat} (g : h < n) : h + min j (n - h) ≤ n:=Nat.le_trans (Nat.add_le_add_left (Nat.min_le_right _ _) h) (Nat.le_of_eq (ar7 (Nat.le_of_lt g)))
theorem ar70 {h n j i : Nat} (f : h + min j (n - h) ≤ i) (e : i < n) : h + j ≤ i:=by
 rcases Nat.le_total j (n - h) with c | c
 ·rwa [Nat.min_eq_left c] at f
 ·rw [Nat.min_eq_right c] at f
  exact absurd (Nat.le_trans (Nat.le_of_eq (Nat.add_comm _ _ ▸ rfl)) f) (Nat.not_le.mpr (Nat.lt_of_lt_of_le e (Nat.le_add_of_sub_le (Nat.le_refl (n - h)) |> fun z=>Nat.add_comm h (n - h) ▸ z)))
theorem ar71 {h n j i : Nat} (f : h + min j (n - h) ≤ i) (e : i < n) : h + j < n:=Nat.lt_of_le_of_lt (ar70 f e) e
theorem ar72 {n q : Nat} (h : q + 1 ≤ n) : n - (n - (q + 1)) = q + 1:=Nat.sub_sub_self h
theorem ar73 {lo n q : Nat} (h : q + 1 ≤ n) : lo + (n - 1) = lo + n - 1:=ar43 (Nat.le_trans (Nat.le_add_left 1 q) h)
theorem ar74 {lo n q : Nat} (h : q + 1 ≤ n) : lo + (n - (q + 1)) + (q + 1) = lo + n:=by rw [Nat.add_assoc,Nat.sub_add_cancel h]
theorem ar75 {lo k l : Nat} (h : l ≤ k) : lo + k - (lo + k - (lo + l)) = lo + l:=Nat.sub_sub_self (Nat.add_le_add_left h lo)
theorem ar76 {lo k l : Nat} : lo + k - (lo + l) ≤ lo + k:=Nat.sub_le _ _
theorem arK {k r : Nat} (g : ¬ (r - k == 0) = true) : k < r:=Nat.lt_of_sub_ne_zero fun e=>g (beq_iff_eq.mpr e)
theorem ar78 {k r : Nat} (g : ¬ (r - k == 0) = true) (f : k ≤ r) : k + (r - k - 1) = r - 1:=by
 rw [← Nat.add_sub_assoc (Nat.sub_pos_of_lt (arK g)),Nat.add_sub_cancel' f]
theorem ar79 {p k r : Nat} (g : ¬ (r - k == 0) = true) : p + k + (r - k) - 1 = p + (r - 1):=by
 rw [Nat.add_assoc,Nat.add_sub_cancel' (Nat.le_of_lt (arK g))]; exact Nat.add_sub_assoc (Nat.lt_of_le_of_lt (Nat.zero_le k) (arK g)) p
theorem ar80 {p k r : Nat} (g : ¬ (r - k == 0) = true) : p + r = p + k + (r - k):=by
 rw [Nat.add_assoc,Nat.add_sub_cancel' (Nat.le_of_lt (arK g))]
theorem ar81 {i n : Nat} (g : i < n) : n - 1 < n:=Nat.sub_lt (Nat.lt_of_le_of_lt (Nat.zero_le _) g) Nat.one_pos
theorem ar82 {i k n : Nat} (h : k + i = n) (g : i < n) : k - 1 < k:=Nat.sub_lt (Nat.pos_of_ne_zero fun z=>Nat.lt_irrefl i (by rw [z,Nat.zero_add] at h; rw [← h] at g; exact g)) Nat.one_pos
theorem ar83 {i k n : Nat} (h : k + i = n) (g : i < n) : k - 1 + (i + 1) = n:=by
 rw [Nat.add_comm i 1,← Nat.add_assoc,Nat.sub_add_cancel (Nat.lt_of_le_of_lt (Nat.zero_le _) (ar82 h g)),h]
theorem ar84 {lo n : Nat} (h : 1 ≤ n) : lo ≤ lo + n - 1 ∧ lo + n - 1 < lo + n:=by
 rw [Nat.add_sub_assoc h]; exact ⟨Nat.le_add_right _ _,Nat.add_lt_add_left (ar1 h) lo⟩
theorem ar85 {b h n x m : Nat} (g : b + n ≤ m) (f : h < n) : b + (h - x) < m:=Nat.lt_of_lt_of_le (Nat.add_lt_add_left (Nat.lt_of_le_of_lt (Nat.sub_le _ _) f) b) g
theorem ar86 {h n x : Nat} (f : h < n) : h - x < n:=Nat.lt_of_le_of_lt (Nat.sub_le _ _) f
theorem ar87 {h n x : Nat} (f : h < n) : h - x ≤ n:=Nat.le_of_lt (ar86 f)
theorem ar88 {i n : Nat} (h : i + 1 < n) : min i n ≤ i:=Nat.min_le_left _ _
theorem ar89 {k n m : Nat} (h : n ≤ m) (g : n - 1 - k > 0) : k ≤ m:=Nat.le_trans (Nat.le_of_lt (Nat.lt_of_sub_pos g)) (Nat.le_trans (Nat.sub_le _ _) h)
theorem ar90 {x y l : Nat} (h : x ≤ y) (g : l < x) : x - 1 ≤ y - 1:=Nat.sub_le_sub_right h 1
theorem ar91 {lo n q : Nat} (h : q + 1 ≤ n) : lo + (n - (q + 1)) ≤ lo + n - 1 ∧ lo + n - 1 < lo + n :=
 ⟨Nat.add_sub_assoc h lo ▸ Nat.sub_le_sub_left (Nat.le_add_left 1 q) (lo + n),Nat.sub_lt (Nat.lt_of_lt_of_le (Nat.lt_of_lt_of_le (Nat.succ_pos q) h) (Nat.le_add_left n lo)) Nat.one_pos⟩
theorem ar93 {lo r s m : Nat} (g : lo + r ≤ s) (h : m < r) : lo + m - 1 < s:=Nat.lt_of_le_of_lt (Nat.sub_le _ _) (Nat.lt_of_lt_of_le (Nat.add_lt_add_left h lo) g)
theorem ar92 {lo r s t m : Nat} (g : lo + r ≤ s) (e : t = s) (h : m < r) : lo + m - 1 < t:=e ▸ ar93 g h
theorem ar94 {lo r s n : Nat} (g : lo + r ≤ s) (h : 1 ≤ n) (f : n ≤ r) : lo + n - 1 < s:=Nat.lt_of_lt_of_le (Nat.sub_lt (Nat.lt_of_lt_of_le h (Nat.le_add_left n lo)) Nat.one_pos) (Nat.le_trans (Nat.add_le_add_left f lo) g)
theorem ar95 {P A B s k : Nat} (e : s = P + (A + B)) (n : ¬ (A - k == 0) = true) : P + k + (A - k) - 1 < s:=by
 rw [← ar80 n,e,← Nat.add_assoc]
 exact Nat.lt_of_lt_of_le (Nat.sub_lt (Nat.lt_of_lt_of_le (Nat.lt_of_le_of_lt (Nat.zero_le k) (arK n)) (Nat.le_add_left A P)) Nat.one_pos) (Nat.le_add_right _ _)
theorem ar96 {i j s t : Nat} (h : t < min j s - i) : i + t < s:=Nat.lt_of_lt_of_le (Nat.add_lt_of_lt_sub' h) (Nat.min_le_right _ _)
theorem ar97 {P A B C s k m : Nat} (e : s = P + (A + (B + C))) (n : ¬ (A - k == 0) = true) (f : m ≤ B) : P + k + 0 + (A - k + m) ≤ s:=by
 rw [Nat.add_zero,← Nat.add_assoc,← ar80 n,e,Nat.add_assoc]
 exact Nat.add_le_add_left (Nat.add_le_add_left (Nat.le_trans f (Nat.le_add_right B C)) A) P
theorem ar98 {x a b k s : Nat} (h : x + (a + b) ≤ s) (g : b - 1 - k > 0) : x + (a + k) ≤ s:=Nat.le_trans (Nat.add_le_add_left (Nat.add_le_add_left (Nat.le_trans (Nat.le_of_lt (Nat.lt_of_sub_pos g)) (Nat.sub_le _ _)) a) x) h
theorem ar99 {a b : Nat} : min a b ≤ a:=Nat.min_le_left _ _
theorem ar100 {j n s : Nat} (h : j < n - 1) (g : n ≤ s) : 0 + j < s:=(Nat.zero_add j).symm ▸ Nat.lt_of_lt_of_le h (Nat.le_trans (Nat.sub_le _ _) g)
theorem ar101 {x a b s : Nat} (h : x + (a + b) ≤ s) : x + (a + (b - 1)) ≤ s:=Nat.le_trans (Nat.add_le_add_left (Nat.add_le_add_left (Nat.sub_le _ _) a) x) h
theorem ar102 {x a b s : Nat} (h : x + 2 + (a + b) ≤ s) : x + 1 + 1 + (a - 1 + b) ≤ s:=Nat.le_trans (Nat.add_le_add_left (Nat.add_le_add_right (Nat.sub_le _ _) b) (x + 2)) h
theorem ar103 {lo k l : Nat} : lo ≤ lo + k - (lo + k - (lo + l)):=Nat.le_sub_of_add_le (Nat.add_le_add_left (Nat.le_trans (Nat.le_of_eq (Nat.add_sub_add_left lo k l)) (Nat.sub_le k l)) lo)
theorem ar104 {h n j i : Nat} (f : h + min j (n - h) ≤ i) (e : i < n) : j < n - h:=Nat.lt_sub_of_add_lt (Nat.add_comm h j ▸ ar71 f e)
theorem ar106 {lo n s N : Nat} (h : lo + n ≤ N) (e : s = N - lo - n) : lo + n + s = N:=by
 rw [e,Nat.sub_sub]; exact Nat.add_sub_cancel' h
theorem ar105 {lo n r s N : Nat} (h : lo + n ≤ N) (f : r = n) (e : s = N - lo - n) : lo + r + s = N:=f ▸ ar106 h e
theorem ar107 {n a b : Nat} (h : n ≤ a) (g : n < b) : n ≤ min a b:=Nat.le_min.mpr ⟨h,Nat.le_of_lt g⟩
theorem ar108 {lo n N s M : Nat} (f : 1 ≤ n) (h : n ≤ N - lo) (e : s = N) : lo + min (N - lo) M ≤ s:=by
 rw [e]
 exact Nat.le_trans (Nat.add_le_add_left (Nat.min_le_left _ _) lo) (Nat.le_of_eq (Nat.add_sub_cancel' (Nat.le_of_lt (Nat.lt_of_sub_pos (Nat.lt_of_lt_of_le f h)))))
theorem ar109 {n : Nat} (h : ¬ n ≤ 1) : n - 2 - 1 + 1 < n:=by
 rcases Nat.le_total n 2 with c | c
 ·rw [Nat.sub_eq_zero_of_le c]; exact Nat.not_le.mp h
 ·exact Nat.lt_of_le_of_lt (Nat.succ_le_succ (Nat.sub_le _ _)) (by rw [Nat.succ_eq_add_one,← Nat.sub_add_comm c]; exact Nat.sub_lt (Nat.succ_pos n) (Nat.succ_pos 1) |> fun z=>Nat.lt_of_le_of_lt (Nat.sub_le_sub_left (Nat.le_refl 2) _) (Nat.lt_of_lt_of_le (Nat.sub_lt_sub_right (Nat.le_trans c (Nat.le_succ n)) (Nat.lt_succ_self (n + 1))) (Nat.le_refl _)))
theorem ar110 {m n y : Nat} (h : y < n) (g : m ≤ y) : m + (n - 1 - y) < n:=Nat.lt_of_le_of_lt (Nat.le_trans (Nat.add_le_add_right g _) (Nat.le_of_eq (Nat.add_sub_cancel' (Nat.le_sub_one_of_lt h)))) (ar81 h)
theorem ar112 {n x y : Nat} (h : y < n) : n - 1 - x < n:=Nat.lt_of_le_of_lt (Nat.sub_le _ _) (ar81 h)
theorem ar111 {m n x y : Nat} (f : x ≤ y) (h : y < n) (g : m ≤ x) : n - 1 - x < n - m:=Nat.lt_of_le_of_lt (Nat.sub_le_sub_left g (n - 1)) (Nat.sub_lt_sub_right (Nat.le_sub_one_of_lt (Nat.lt_of_le_of_lt (Nat.le_trans g f) h)) (ar81 h))
theorem ar113 {lo i l : Nat} (h : l < i) : lo + i - 1 = lo + (i - 1):=Nat.add_sub_assoc (Nat.lt_of_le_of_lt (Nat.zero_le _) h) lo
theorem arZ {i h j : Nat} (g : i < h + 1 - min j (h + 1)) (f : ¬ j < h + 1) : False:=by
 rw [Nat.min_eq_right (Nat.not_lt.mp f),Nat.sub_self] at g; exact Nat.not_lt_zero _ g
/- pairs,by the first and then the second -/
section
variable {a b c d e f : Int}
end
end Mine
end
section
namespace Mine
noncomputable def Sub (D : List Addr) (h h' : Heap) : Prop := ∀ b o,b ∉ D → h.get? b = some o → h'.get? b = some o
theorem Sub.refl {D : List Addr} {h : Heap} : Sub D h h:=fun zz zz zz e=>e
theorem Sub.trans {D : List Addr} {h h' h'' : Heap} (x : Sub D h h') (y : Sub D h' h'') : Sub D h h'':=fun b o n e=>y b o n (x b o n e)
theorem Sub.nil {D : List Addr} {h h' : Heap} (x : Sub [] h h') : Sub D h h':=fun b o zz e=>x b o (by walk_at "ms") e
theorem Sub.push (h : Heap) (o : Obj) : Sub [] h (h.push o):=fun zz zz zz e=>Heap.get?_push_of_some _ e
theorem Sub.of_keep {h h' : Heap} (k : ∀ b o,h.get? b = some o → h'.get? b = some o) : Sub [] h h':=fun b o zz e=>k b o e
theorem Sub.keep {h h' : Heap} (x : Sub [] h h') : ∀ b o,h.get? b = some o → h'.get? b = some o:=fun b o e=>x b o (by walk_at "ms") e
theorem Sub.same {d : Addr} {h h' : Heap} (x : Heap.SameBut d h h') : Sub [d] h h':=fun b o n e=>(x.2 b (by simpa using n)).trans e
theorem Sub.ext {d : Addr} {h h' : Heap} (x : Heap.ExtBut d h h') : Sub [d] h h':=fun b o n e=>x b o (by simpa using n) e
theorem get_size_none (h : Heap) : h.get? h.objs.size = none:=by
 cases e : h.get? h.objs.size with
 | none=>rfl
 | some o=>exact absurd (Heap.lt_size e) (Nat.lt_irrefl _)
theorem get_push_self (h : Heap) (o : Obj) (hf : o.isFreed = false:=by rfl) : (h.push o).get? h.objs.size = some o:=Heap.get?_push_size _ hf
structure S (h₀ : Heap) (D : List Addr) (L : Addr) (m : Str → Option Value) (l : List (Addr × Obj)) (h : Heap) : Prop where
 base : Sub D h₀ h
 ns : h.Ns L m
 led : ∀ p ∈ l,h.get? p.1 = some p.2
 own : ∀ p ∈ l,p.1 ∈ D ∨ h₀.get? p.1 = none
 nodup : (l.map (·.1)).Nodup
 offL : L ∉ l.map (·.1)
 newL : h₀.get? L = none
 dl : ∀ d ∈ D,d ∈ l.map (·.1)
variable {h₀ h h' : Heap} {D : List Addr} {L : Addr} {m : Str → Option Value} {l : List (Addr × Obj)}
theorem S.get (H : S h₀ D L m l h) {a : Addr} {o : Obj} (hm : (a,o) ∈ l) : h.get? a = some o:=H.led _ hm
theorem S.old (H : S h₀ D L m l h) {a : Addr} {o : Obj} (e : h₀.get? a = some o) (n : a ∉ D) : h.get? a = some o:=H.base _ _ n e
theorem S.sub (H : S h₀ D L m l h) (x : Sub [] h h') : S h₀ D L m l h' where
 base:=H.base.trans x.nil
 ns:=let ⟨o,es,ep,e,r⟩:=H.ns; ⟨o,es,ep,x _ _ (by walk_at "ms") e,r⟩
 led:=fun p hp=>x _ _ (by walk_at "ms") (H.led p hp)
 own:=H.own
 nodup:=H.nodup
 offL:=H.offL
 newL:=H.newL
 dl:=H.dl
theorem S.store {m' : Str → Option Value} (H : S h₀ D L m l h) (hn : h'.Ns L m') (x : Heap.SameBut L h h') : S h₀ D L m' l h' where
 base:=fun b o n e=>(x.2 b (fun q=>by subst q; rw [H.newL] at e; cases e)).trans (H.base b o n e)
 ns:=hn
 led:=fun p hp=>(x.2 p.1 (fun q=>H.offL (q ▸ List.mem_map_of_mem hp))).trans (H.led p hp)
 own:=H.own
 nodup:=H.nodup
 offL:=H.offL
 newL:=H.newL
 dl:=H.dl
theorem S.add {a : Addr} {o : Obj} (H : S h₀ D L m l h) (x : Sub [] h h') (hn : h.get? a = none) (ho : h'.get? a = some o) : S h₀ D L m ((a,o) :: l) h' where
 base:=(H.sub x).base
 ns:=(H.sub x).ns
 led:=fun p hp=>by
  rcases List.mem_cons.mp hp with rfl | hp
  ·exact ho
  ·exact (H.sub x).led p hp
 own:=fun p hp=>by
  rcases List.mem_cons.mp hp with rfl | hp
  ·by_cases q : a ∈ D
   ·exact .inl q
   ·refine .inr ?_
    cases e : h₀.get? a with
    | none=>rfl
    | some o'=>rw [H.base a o' q e] at hn; cases hn
  ·exact H.own p hp
 nodup:=by
  rw [List.map_cons,List.nodup_cons]
  refine ⟨fun q => ?_,H.nodup⟩
  obtain ⟨p,hp,e⟩:=List.mem_map.mp q
  have:=H.led p hp
  rw [e,hn] at this; cases this
 offL:=by
  rw [List.map_cons,List.mem_cons]
  rintro (q | q)
  ·obtain ⟨o',_,_,e,_⟩:=H.ns
   rw [q,hn] at e; cases e
  ·exact H.offL q
 newL:=H.newL
 dl:=fun d hd=>List.mem_cons_of_mem _ (H.dl d hd)
set_option tactic.hygienic true in
theorem S.upd {d : Addr} {o o' : Obj} (H : S h₀ D L m l h) (i : Nat) (hi : l[i]? = some (d,o)) (x : Sub [d] h h') (ho : h'.get? d = some o') : S h₀ D L m (l.set i (d,o')) h' where
 base:=fun b ob n e=>x b ob (fun q=>by
  obtain rfl : b = d:=by simpa using q
  rcases H.own (b,o) (List.mem_of_getElem? hi) with y | y
  ·exact n y
  ·rw [y] at e; cases e) (H.base b ob n e)
 ns:=by
  obtain ⟨oL,es,ep,e,r⟩:=H.ns
  refine ⟨oL,es,ep,x _ _ (fun q => ?_) e,r⟩
  obtain rfl : L = d:=by simpa using q
  exact H.offL (List.mem_map.mpr ⟨_,List.mem_of_getElem? hi,rfl⟩)
 led:=fun p hp=>by
  obtain ⟨j,hj,rfl⟩:=List.getElem_of_mem hp
  rw [List.getElem_set] at *
  rw [List.length_set] at hj
  split
  ·exact ho
  ·rename_i ne
   refine x _ _ (fun q => ?_) (H.led _ (List.getElem_mem hj))
   have hi' : i < l.length:=by
    rcases Nat.lt_or_ge i l.length with y | y
    ·exact y
    ·rw [List.getElem?_eq_none y] at hi; cases hi
   have e1 : l[i] = (d,o):=by rw [List.getElem?_eq_getElem hi'] at hi; exact Option.some.inj hi
   have e2 : l[j].1 = d:=by simpa using q
   have nd:=List.pairwise_iff_getElem.mp H.nodup
   rcases Nat.lt_trichotomy i j with y | y | y
   ·exact nd i j (by simpa using hi') (by simpa using hj) y (by simp [e1,e2])
   ·exact ne y
   ·exact nd j i (by simpa using hj) (by simpa using hi') y (by simp [e1,e2])
 own:=fun p hp=>by
  rcases List.mem_or_eq_of_mem_set hp with y | y
  ·exact H.own p y
  ·subst y; exact H.own (d,o) (List.mem_of_getElem? hi)
 nodup:=by
  have e : (l.set i (d,o')).map (·.1) = l.map (·.1):=by
   rw [List.map_set]
   refine List.ext_getElem (by walk_at "ms") fun j h1 h2 => ?_
   rw [List.getElem_set]
   split
   ·rename_i e; subst e
    have hi' : i < l.length:=by simpa using h2
    rw [List.getElem?_eq_getElem hi'] at hi
    have:=Option.some.inj hi
    simp [this]
   ·rfl
  rw [e]; exact H.nodup
 offL:=by
  have e : (l.set i (d,o')).map (·.1) = l.map (·.1):=by
   rw [List.map_set]
   refine List.ext_getElem (by walk_at "ms") fun j h1 h2 => ?_
   rw [List.getElem_set]
   split
   ·rename_i e; subst e
    have hi' : i < l.length:=by simpa using h2
    rw [List.getElem?_eq_getElem hi'] at hi
    have:=Option.some.inj hi
    simp [this]
   ·rfl
  rw [e]; exact H.offL
 newL:=H.newL
 dl:=by
  have e : (l.set i (d,o')).map (·.1) = l.map (·.1):=by
   rw [List.map_set]
   refine List.ext_getElem (by walk_at "ms") fun j h1 h2 => ?_
   rw [List.getElem_set]
   split
   ·rename_i e; subst e
    have hi' : i < l.length:=by simpa using h2
    rw [List.getElem?_eq_getElem hi'] at hi
    have:=Option.some.inj hi
    simp [this]
   ·rfl
  rw [e]; exact H.dl
theorem S.drop {l' : List (Addr × Obj)} (H : S h₀ D L m l h) (hs : l'.Sublist l) (hd : ∀ d ∈ D,d ∈ l'.map (·.1)) : S h₀ D L m l' h where
 base:=H.base
 ns:=H.ns
 led:=fun p hp=>H.led p (hs.subset hp)
 own:=fun p hp=>H.own p (hs.subset hp)
 nodup:=(hs.map _).nodup H.nodup
 offL:=fun q=>H.offL ((hs.map _).subset q)
 newL:=H.newL
 dl:=hd
end Mine
end
section
namespace Mine
section
variable {prog : Program} {w : World} {A : Around} {α β : Type} {h h' : Heap} {env : Env}
inductive TPo {α : Type} (s : Shared) (Q : α → Heap → Prop) (a : α) : Shared → Prop
 | mk (h' : Heap) (tk : Nat) : Q a h' → TPo s Q a { s with heap:=h',toks:=tk }
inductive CPo (s : Shared) (Q : Value → Heap → Prop) : Result → Shared → Prop
 | mk (v : Value) (h' : Heap) (tk : Nat) : Q v h' → CPo s Q (.ok (.ret v)) { s with heap:=h',toks:=tk }
theorem TPo.here {s : Shared} {Q : α → Heap → Prop} {a : α} (e : s.heap = h) (q : Q a h) : TPo s Q a s := .mk s.heap s.toks (e ▸ q)
noncomputable def T (prog : Program) (w : World) (A : Around) {α : Type} (t : Sem α) (h : Heap) (Q : α → Heap → Prop) : Prop :=
 ∀ s : Shared,s.heap = h → wpAny (model prog w) A t (TPo s Q) (fun zz zz=>False) s
noncomputable def TC (prog : Program) (w : World) (A : Around) (c : Code) (h : Heap) (Q : Value → Heap → Prop) : Prop :=
 ∀ s : Shared,s.heap = h → codeAny (model prog w) A c (CPo s Q) s
section
variable {t : Sem α} {Q : α → Heap → Prop} {Q' : α → Shared → Prop} {E' : Value → Shared → Prop} {s : Shared} {tk : Nat}
theorem T.el (x : T prog w A t h Q) (e : s.heap = h) (k : ∀ a h' tk,Q a h' → Q' a { s with heap:=h',toks:=tk }) : wpAny (model prog w) A t Q' E' s :=
 wpAny_mono (x s e) (fun zz zz z=>z.casesOn (k _)) fun zz zz z=>z.elim
theorem T.nx {h' : Heap} (x : T prog w A t h' Q) (k : ∀ a h' tk,Q a h' → Q' a { s with heap:=h',toks:=tk }) : wpAny (model prog w) A t Q' E' { s with heap:=h',toks:=tk }:=x.el rfl k
theorem T.out {h' : Heap} (x : T prog w A t h' Q) : wpAny (model prog w) A t (TPo s Q) E' { s with heap:=h',toks:=tk }:=x.nx fun zz => .mk
end
theorem T.pure {a : α} {Q : α → Heap → Prop} (q : Q a h) : T prog w A (Pure.pure a) h Q:=fun s e=>wpAny_pure (.here e q)
theorem T.bind {t : Sem α} {f : α → Sem β} {Q : β → Heap → Prop} (x : T prog w A t h fun a h'=>T prog w A (f a) h' Q) : T prog w A (t >>= f) h Q:=fun s e=>wpAny_bind (x.el e fun zz zz zz y=>y.out)
theorem T.mono {t : Sem α} {Q Q' : α → Heap → Prop} (x : T prog w A t h Q) (q : ∀ a h',Q a h' → Q' a h') : T prog w A t h Q':=fun s e=>x.el e fun a h' zz y => .mk _ _ (q a h' y)
theorem T.eq {t t' : Sem α} {Q : α → Heap → Prop} (e : t = t') (x : T prog w A t' h Q) : T prog w A t h Q:=e ▸ x
theorem T.holding {vs : List Value} {t : Sem α} {Q : α → Heap → Prop} (x : T prog w A t h Q) : T prog w A (holding vs t) h Q:=fun s e=>wpAny_holding (x s e)
theorem T.standAt {p : Pos} {Q : Unit → Heap → Prop} (q : Q () h) : T prog w A (standAt p) h Q:=fun s e=>wpAny_standAt (.here e q)
theorem T.call {f : Value} {pos : List Value} {kw : List (Str × Value)} {Q : Value → Heap → Prop} (x : TC prog w A (.call f ⟨pos,kw⟩) h Q) : T prog w A (call f pos kw) h Q:=fun s e =>
 wpAny_call (codeAny_mono (x s e) (by rintro r s' ⟨v,h',tk,q⟩; exact .mk _ _ q))
theorem T.execs_nil {Q : Flow → Heap → Prop} (q : Q .next h) : T prog w A (execs [] env) h Q:=fun s e=>wpAny_execs_nil (.here e q)
theorem T.execs_cons {st : Stmt} {rest : List Stmt} {Q : Flow → Heap → Prop} (x : T prog w A (exec st env) h fun f h'=>match f with | .next=>T prog w A (execs rest env) h' Q | f=>Q f h') :
  T prog w A (execs (st :: rest) env) h Q:=fun s e=>wpAny_execs_cons (x.el e fun f zz zz y=>match f,y with
  | .next,y=>T.out y
  | .brk,y => .mk _ _ y
  | .cont,y => .mk _ _ y
  | .ret v,y => .mk _ _ y)
theorem T.Assign_Name {x : Str} {px pos : Pos} {value : PySem.Expr} {Q : Flow → Heap → Prop} (t : T prog w A (eval value env) h fun v h'=>T prog w A (storeName env x v) h' fun zz=>Q .next)
  (hs : swapsWith value (some (.Name x px)) pos.line env = Pure.pure false:=by rfl) : T prog w A (exec (.Assign [.Name x px] value pos) env) h Q:=fun s e =>
 wpAny_Assign_Name (t.el e fun zz zz zz y=>y.nx fun zz => .mk) hs
theorem T.If {test : PySem.Expr} {body orelse : List Stmt} {pos : Pos} {Q : Flow → Heap → Prop} (t : T prog w A (isTrue test env (eval test env)) h fun b h'=>if b = true then T prog w A (execs body env) h' Q else T prog w A (execs orelse env) h' Q) :
  T prog w A (exec (.If test body orelse pos) env) h Q:=fun s e =>
 wpAny_If (t.el e fun b zz zz y=>match b,y with
  | true,y=>T.out y
  | false,y=>T.out y)
theorem T.Expr {e : PySem.Expr} {pos : Pos} {Q : Flow → Heap → Prop} (t : T prog w A (eval e env) h fun v h'=>(∀ a,v ≠ .ref a) ∧ Q .next h') (hi : interactive env = false:=by rfl) (hs : swapsWith e none pos.line env = Pure.pure false:=by rfl) :
  T prog w A (exec (.Expr e pos) env) h Q:=fun s e =>
 wpAny_Expr (t.el e (by
  intro v h' tk ⟨n,y⟩
  cases v with
  | ref a=>exact (n a rfl).elim
  | _=>exact .mk _ _ y)) hi hs
theorem T.cInt {i : Int} {k : Nat} {pos : Pos} {Q : Value → Heap → Prop} (q : ∀ t,Q (.int i t) h) : T prog w A (eval (.Constant (.int i) k pos) env) h Q:=fun s e=>wpAny_Constant_int (.mk s.heap (s.toks + 1) (e ▸ q _))
theorem T.BinOp {a b : PySem.Expr} {op : Operator} {pos : Pos} {Q : Value → Heap → Prop} (t : T prog w A (eval a env) h fun x h₁=>T prog w A (eval b env) h₁ fun y h₂=>T prog w A (binaryOp op x y) h₂ Q) :
  T prog w A (eval (.BinOp a op b pos) env) h Q:=fun s e=>wpAny_BinOp (t.el e fun zz zz zz y=>y.nx fun zz zz zz z=>z.out)
theorem T.Compare {a b : PySem.Expr} {op : CmpOp} {pos : Pos} {Q : Value → Heap → Prop} (t : T prog w A (eval a env) h fun x h₁=>T prog w A (eval b env) h₁ fun y h₂=>T prog w A (compareOp op x y) h₂ Q)
  (hm : behindInMarks op b = false:=by with_unfolding_all rfl) : T prog w A (eval (.Compare a [op] [b] pos) env) h Q:=fun s e=>wpAny_Compare1 (t.el e fun zz zz zz y=>y.nx fun zz zz zz z=>z.out) hm
theorem T.isTrue_Compare {a b : PySem.Expr} {op : CmpOp} {pos : Pos} {whole : Sem Value} {Q : Bool → Heap → Prop} (t : T prog w A (eval a env) h fun x h₁=>T prog w A (eval b env) h₁ fun y h₂=>T prog w A (compareOp op x y) h₂ fun c h₃=>T prog w A (truthy c) h₃ Q)
  (hm : behindInMarks op b = false:=by with_unfolding_all rfl) : T prog w A (isTrue (.Compare a [op] [b] pos) env whole) h Q:=fun s e=>wpAny_isTrue_Compare1 (t.el e fun zz zz zz y=>y.nx fun zz zz zz z=>z.nx fun zz zz zz z=>z.out) hm
theorem T.truthy_bool {b : Bool} {Q : Bool → Heap → Prop} (q : Q b h) : T prog w A (truthy (.bool b)) h Q:=fun s e=>wpAny_truthy_bool (.here e q)
end
end Mine
end
section
namespace Mine
noncomputable def upd (m : Str → Option Value) (x : Str) (v : Value) : Str → Option Value:=fun y=>if y = x then some v else m y
theorem upd_here {m : Str → Option Value} {x : Str} {v : Value} : upd m x v x = some v:=by simp [upd]
theorem upd_next {m : Str → Option Value} {x y : Str} {u : Value} {r : Option Value} (n : y ≠ x) (e : m y = r) : upd m x u y = r:=by simp [upd,n,e]
section
variable {prog : Program} {w : World} {A : Around} {h h' h₀ : Heap} {env : Env} {D : List Addr} {m : Str → Option Value} {l : List (Addr × Obj)}
structure EnvOk (env : Env) : Prop where
 kind : env.scope.kind = .function
 glob : env.globals = mainGlobals
 blt : env.builtins = builtinsNs
 inter : interactive env = false
theorem notTop (e : EnvOk env) : (env.scope.kind == .class || (env.scope.kind == .module && env.locals != env.globals)) = false:=by rw [e.kind]; rfl
theorem T.loadName {x : Str} {v : Value} {Q : Value → Heap → Prop} (e : EnvOk env) (H : S h₀ D env.locals m l h) (hv : m x = some v) (q : Q v h) (hl : env.kindOf x = some .local) : T prog w A (loadName env x) h Q :=
 fun s es=>by subst es; exact wpAny_loadName_local e.kind hl H.ns hv ⟨s.heap,s.toks,q⟩
theorem T.Name {x : Str} {pos : Pos} {v : Value} {Q : Value → Heap → Prop} (e : EnvOk env) (H : S h₀ D env.locals m l h) (hv : m x = some v) (q : Q v h) (hl : env.kindOf x = some .local) (hd : (x == ("__debug__" : Str)) = false) :
  T prog w A (eval (.Name x pos) env) h Q:=fun s es=>wpAny_Name (T.loadName e H hv q hl s es) hd
theorem T.storeName {x : Str} {v : Value} {Q : Unit → Heap → Prop} (e : EnvOk env) (H : S h₀ D env.locals m l h) (q : ∀ h',S h₀ D env.locals (upd m x v) l h' → Q () h') (hl : env.kindOf x = some .local) : T prog w A (storeName env x v) h Q :=
 fun s es=>by subst es; exact wpAny_storeName_local hl H.ns (fun h' hn hs=>⟨h',_,q h' (H.store hn hs)⟩) (notTop e)
structure Gr (K : Frag) (h : Heap) : Prop where
 k : K.In h
 g : ∃ mg,h.Ns mainGlobals mg
 b : ∃ mb,h.Ns builtinsNs mb ∧ ∀ x : Str,x ≠ "__name__" → mb x = bootBuiltins x
 nolimit : h.NoLimit
theorem Gr.sub {K : Frag} (G : Gr K h) (x : Sub [] h h') : Gr K h' where
 k:=G.k.keeps x.keep
 g:=G.g.imp fun mg n=>n.keeps x.keep
 b:=G.b.imp fun mb n=>⟨n.1.keeps x.keep,n.2⟩
 nolimit:=G.nolimit.keeps x.keep
theorem T.global {K : Frag} {x : Str} {pos : Pos} {v : Value} {Q : Value → Heap → Prop} (e : EnvOk env) (G : Gr K h) (hv : nsIn K mainGlobals x = some (some v)) (q : Q v h) (hl : env.kindOf x = some .globalImplicit) (hd : (x == ("__debug__" : Str)) = false) :
  T prog w A (eval (.Name x pos) env) h Q:=fun s es=>by
 subst es
 obtain ⟨mg,hg⟩:=G.g
 exact Name_function_global e.kind hl (loadGlobal_global (e.glob ▸ hg) (mg_of G.k hg hv) ⟨s.heap,s.toks,q⟩) hd
theorem T.builtin {K : Frag} {x : Str} {pos : Pos} {v : Value} {Q : Value → Heap → Prop} (e : EnvOk env) (G : Gr K h) (hn : nsIn K mainGlobals x = some none) (hv : bootBuiltins x = some v) (q : Q v h) (hl : env.kindOf x = some .globalImplicit) (hd : (x == ("__debug__" : Str)) = false) (hx : x ≠ "__name__") :
  T prog w A (eval (.Name x pos) env) h Q:=fun s es=>by
 subst es
 obtain ⟨mg,hg⟩:=G.g
 obtain ⟨mb,hb,hbe⟩:=G.b
 exact Name_function_global e.kind hl (loadGlobal_builtin (e.glob ▸ hg) (mg_none_of G.k hg hn) (e.blt ▸ hb) ((hbe x hx).trans hv) ⟨s.heap,s.toks,q⟩) hd
variable {a b : Int} {t u : Tok}
theorem T.add {Q : Value → Heap → Prop} (q : ∀ t,Q (.int (a + b) t) h) : T prog w A (binaryOp .Add (.int a t) (.int b u)) h Q:=fun s es=>by subst es; exact PyProof.Rows.add_int ⟨_,_,q _⟩
theorem T.sub {Q : Value → Heap → Prop} (q : ∀ t,Q (.int (a - b) t) h) : T prog w A (binaryOp .Sub (.int a t) (.int b u)) h Q:=fun s es=>by subst es; exact PyProof.Rows.sub_int ⟨_,_,q _⟩
theorem T.mod {Q : Value → Heap → Prop} (hb : b ≠ 0) (q : ∀ t,Q (.int (a.fmod b) t) h) : T prog w A (binaryOp .Mod (.int a t) (.int b u)) h Q:=fun s es=>by subst es; exact PyProof.Rows.mod_int hb ⟨_,_,q _⟩
theorem T.gt {Q : Value → Heap → Prop} (q : Q (.bool (decide (b < a))) h) : T prog w A (compareOp .Gt (.int a t) (.int b u)) h Q:=fun s es=>by subst es; exact PyProof.Rows.gt_int ⟨_,s.toks,q⟩
theorem T.le {Q : Value → Heap → Prop} (q : Q (.bool (decide (a ≤ b))) h) : T prog w A (compareOp .LtE (.int a t) (.int b u)) h Q:=fun s es=>by subst es; exact PyProof.Rows.le_int ⟨_,s.toks,q⟩
theorem T.ge {Q : Value → Heap → Prop} (q : Q (.bool (decide (b ≤ a))) h) : T prog w A (compareOp .GtE (.int a t) (.int b u)) h Q:=fun s es=>by subst es; exact PyProof.Rows.ge_int ⟨_,s.toks,q⟩
theorem T.eqI {Q : Value → Heap → Prop} (q : Q (.bool (a == b)) h) : T prog w A (compareOp .Eq (.int a t) (.int b u)) h Q:=fun s es=>by subst es; exact PyProof.Rows.eq_int ⟨_,s.toks,q⟩
theorem T.neI {Q : Value → Heap → Prop} (q : Q (.bool (a != b)) h) : T prog w A (compareOp .NotEq (.int a t) (.int b u)) h Q:=fun s es=>by subst es; exact PyProof.Rows.ne_int ⟨_,s.toks,q⟩
theorem T.cNone {k : Nat} {pos : Pos} {Q : Value → Heap → Prop} (q : Q .none h) : T prog w A (eval (.Constant .none k pos) env) h Q:=fun s es=>fun zz zz zz=>(.here es q)
theorem T.cStr {x : Str} {k : Nat} {pos : Pos} {Q : Value → Heap → Prop} (q : ∀ t,Q (.str x t) h) : T prog w A (eval (.Constant (.str x) k pos) env) h Q:=fun s es=>Constant_str ⟨s.heap,s.toks + 1,es ▸ q _⟩
theorem T.cBool {b : Bool} {k : Nat} {pos : Pos} {Q : Value → Heap → Prop} (q : Q (.bool b) h) : T prog w A (eval (.Constant (.bool b) k pos) env) h Q:=fun s es=>fun zz zz zz=>(.here es q)
end
end Mine
end
section
namespace Mine
section
variable {prog : Program} {w : World} {A : Around} {h h' h₀ : Heap} {env : Env} {D : List Addr} {m : Str → Option Value} {l : List (Addr × Obj)}
inductive FPo (s : Shared) (Q : Flow → Heap → Prop) : Result → Shared → Prop
 | mk (f : Flow) (h' : Heap) (tk : Nat) : Q f h' → FPo s Q (.ok f) { s with heap:=h',toks:=tk }
noncomputable def TF (prog : Program) (w : World) (A : Around) (c : Code) (h : Heap) (Q : Flow → Heap → Prop) : Prop :=
 ∀ s : Shared,s.heap = h → codeAny (model prog w) A c (FPo s Q) s
theorem T.For {target iter : PySem.Expr} {body : List Stmt} {pos : Pos} {Q : Flow → Heap → Prop}
  (x : T prog w A (eval iter env) h fun v h₁=>T prog w A (pyIter v) h₁ fun it h₂=>TF prog w A (.forLoop target it body [] env) h₂ Q)
  (hs : ∀ x,foldedSetIterable iter env x = Pure.pure x:=by intro _; rfl) : T prog w A (exec (.For target iter body [] pos) env) h Q:=fun s e =>
 wpAny_For (T.el x e (by
  rintro v h₁ t₁ y
  refine T.nx y (by
   rintro it h₂ t₂ z
   exact codeAny_mono (z _ rfl) (by rintro r s₃ ⟨f,h₃,t₃,q⟩; exact ⟨h₃,t₃,q⟩)))) hs
theorem TF.forLoop {target : PySem.Expr} {it : Value} {body : List Stmt} {Q : Flow → Heap → Prop} (I : Nat → Heap → Prop)
  (turn : ∀ n h,I n h → T prog w A (pyNext it) h fun r h₁=>match r with
   | none=>Q .next h₁
   | some v=>T prog w A (letOwnedTupleGo target it v) h₁ fun zz h₁=>T prog w A (assign target env v) h₁ fun zz h₂=>T prog w A (execs body env) h₂ fun f h₃=>match f with
     | .next | .cont => ∃ m,m < n ∧ I m h₃
     | .brk=>Q .next h₃
     | .ret v=>Q (.ret v) h₃)
  (n : Nat) (hI : I n h) : TF prog w A (.forLoop target it body [] env) h Q:=fun s e=>by
 subst e
 refine codeAny_forLoop_any (fun n=>TPo s (fun (_ : Unit)=>I n) ()) ?_ n ⟨s.heap,s.toks,hI⟩
 rintro n s' ⟨h',tk,hI⟩
 refine T.nx (turn n h' hI) (by
  rintro r h₁ t₁ y
  cases r with
  | none=>exact wpAny_execs_nil ⟨_,_,_,y⟩
  | some v =>
   refine T.nx y (by
    rintro _ h₁ t₁ y
    refine T.nx y (by
     rintro _ h₂ t₂ z
     refine T.nx z (by
      rintro f h₃ t₃ q
      cases f with
      | next=>exact q.imp fun k x=>⟨x.1,h₃,t₃,x.2⟩
      | cont=>exact q.imp fun k x=>⟨x.1,h₃,t₃,x.2⟩
      | brk=>exact ⟨_,_,_,q⟩
      | ret v=>exact ⟨_,_,_,q⟩))))
end
end Mine
end
section
namespace Mine
section
variable {prog : Program} {w : World} {A : Around} {h h' h₀ : Heap} {env : Env} {D : List Addr} {m : Str → Option Value} {l : List (Addr × Obj)}
noncomputable def TArgs (prog : Program) (w : World) (A : Around) (env : Env) : List PySem.Expr → Heap → (List Value → Heap → Prop) → Prop
 | [],h,Q=>Q [] h
 | e :: r,h,Q=>T prog w A (eval e env) h fun v h₁=>TArgs prog w A env r h₁ fun vs h₂=>Q (v :: vs) h₂
theorem TArgs.wp (hs : ∀ e ∈ es,∀ v p,e ≠ .Starred v p) {pos : Pos} {Q : List Value → Heap → Prop} (x : TArgs prog w A env es h Q) : T prog w A (spliced (backTo pos (starEach es env))) h Q:=by
 induction es generalizing h Q with
 | nil=>intro s e; subst e; exact spliced_nil ⟨_,s.toks,x⟩
 | cons e r ih =>
  have he : starEach (e :: r) env = (false,eval e env) :: starEach r env:=by
   cases e <;> first | rfl | exact absurd rfl (hs _ (.head _) _ _)
  rw [he]
  intro s es
  refine spliced_cons (T.el (T.mono x (fun v h₁ y=>ih (fun e he=>hs e (.tail _ he)) y)) es (by
   rintro v h₁ t₁ y
   exact (T.nx y fun zz => .mk)))
noncomputable def noStars (es : List PySem.Expr) : Bool:=es.all fun e=>match e with | .Starred .. => false | _=>true
theorem noStars_of {es : List PySem.Expr} (x : noStars es = true) : ∀ e ∈ es,∀ v p,e ≠ .Starred v p:=fun e he v p q=>by
 subst q
 have:=List.all_eq_true.mp x _ he
 cases this
noncomputable def Keeps (prog : Program) (w : World) (f : Value) (h : Heap) : Prop := ∃ k,(k = Keeper.frame ∨ k = Keeper.machine ∨ k = Keeper.boundFrame) ∧ Looks (model prog w) h (keeperOf f) k
theorem Keeps.builtin {id : String} : Keeps prog w (.builtin id) h:=⟨_,.inr (.inl rfl),Looks.of_pure rfl⟩
theorem Keeps.type {n : String} : Keeps prog w (.type n) h:=⟨_,.inr (.inl rfl),Looks.of_pure rfl⟩
theorem Keeps.frag {K : Frag} {f : Value} (X : K.In h) (hk : keepIn K f = true) : Keeps prog w f h:=keeps_K hk _ X
theorem T.callWith {pos : Pos} {f : Value} {first : List Value} {es : List PySem.Expr} {Q : Value → Heap → Prop}
  (x : TArgs prog w A env es h fun vs h₁=>Keeps prog w f h₁ ∧ T prog w A (PySem.call f (first ++ vs)) h₁ Q) (hs : noStars es = true) :
  T prog w A (callWith pos f first (backTo pos (starEach es env)) []) h Q:=fun s e=>by
 have hplain : ((backTo pos (starEach es env)).any (·.1) || ([] : List (Option Str × Sem Value)).any (·.1.isNone)) = false:=by
  have : ∀ es : List PySem.Expr,noStars es = true → (backTo pos (starEach es env)).any (·.1) = false:=by
   intro es hs
   induction es with
   | nil=>rfl
   | cons e r ih =>
    have he : starEach (e :: r) env = (false,eval e env) :: starEach r env:=by
     cases e <;> first | rfl | exact absurd rfl (noStars_of hs _ (.head _) _ _)
    rw [he]
    have hr : noStars r = true:=by
     unfold noStars at hs ⊢
     rw [List.all_cons,Bool.and_eq_true] at hs
     exact hs.2
    show (false || (backTo pos (starEach r env)).any (·.1)) = false
    rw [ih hr]; rfl
  rw [this es hs]; rfl
 refine callWith_of (P:=fun h=>Keeps prog w f h) hplain (fun h k=>k) ?_
 cases es with
 | nil =>
  refine evalArgs_nil3 ?_
  subst e
  exact ⟨x.1,(T.out x.2)⟩
 | cons e₁ r =>
  have he : starEach (e₁ :: r) env = (false,eval e₁ env) :: starEach r env:=by
   cases e₁ <;> first | rfl | exact absurd rfl (noStars_of hs _ (.head _) _ _)
  have y:=TArgs.wp (pos:=pos) (noStars_of hs) x s e
  rw [he] at y ⊢
  refine evalArgs_plain (wpAny_mono y (by
   rintro vs s₁ ⟨h₁,t₁,k,z⟩
   exact ⟨k,(T.out z)⟩) fun zz zz z=>z)
theorem T.Call_Name {x : Str} {p pos : Pos} {es : List PySem.Expr} {Q : Value → Heap → Prop} (t : T prog w A (eval (.Name x p) env) h fun f h₁=>T prog w A (PySem.callWith pos f [] (backTo pos (starEach es env)) []) h₁ Q) :
  T prog w A (eval (.Call (.Name x p) es [] pos) env) h Q:=fun s e=>PyProof.Rows.Call_Name rfl (T.el t e (by
   rintro vs h₁ t₁ z
   exact (T.out z)))
theorem T.Call_method {o : PySem.Expr} {name : Str} {apos pos : Pos} {es : List PySem.Expr} {pl : Sem Bool} {Q : Value → Heap → Prop}
  (t : T prog w A (eval o env) h fun ov h₁=>T prog w A (getMethod ov name pl) h₁ fun fx h₂=>T prog w A (PySem.callWith pos fx.1 fx.2 (backTo pos (starEach es env)) []) h₂ Q)
  (he : eval (.Call (.Attribute o name apos) es [] pos) env = (do
   let ov ← eval o env
   PySem.standAt apos.atName
   let (f,first) ← PySem.holding [ov] (getMethod ov name pl)
   PySem.callWith pos f first (backTo pos (starEach es env)) (backToKw pos (keywordEach [] env))):=by rfl) :
  T prog w A (eval (.Call (.Attribute o name apos) es [] pos) env) h Q:=fun s e=>methodCall_KW (pl:=pl) (T.el t e (by
   rintro ov h₁ t₁ z
   exact T.nx z (by
    rintro fx h₂ t₂ z
    exact (T.out z)))) he
theorem T.Attribute {o : PySem.Expr} {name : Str} {pos : Pos} {Q : Value → Heap → Prop} (t : T prog w A (eval o env) h fun ov h₁=>T prog w A (getAttr ov name true) h₁ Q)
  (he : eval (.Attribute o name pos) env = (do
   let ov ← eval o env
   PySem.standAt pos.atName
   let r ← PySem.holding [ov] (getAttr ov name true)
   letTemporaryGo o ov r
   Pure.pure r):=by with_unfolding_all rfl) : T prog w A (eval (.Attribute o name pos) env) h Q:=fun s e=>Attribute_any_ (T.el t e (by
   rintro ov h₁ t₁ z
   exact (T.out z))) he
noncomputable def bindM (bs : List (Str × Value)) : Str → Option Value:=bs.foldl (fun m p=>upd m p.1 p.2) fun zz=>none
theorem bindM_eq (bs : List (Str × Value)) : (fun x=>bs.reverse.lookup x) = bindM bs:=by
 have : ∀ (bs : List (Str × Value)) (m : Str → Option Value),bs.foldl (fun m p=>upd m p.1 p.2) m = fun x=>(bs.reverse.lookup x).or (m x):=by
  intro bs
  induction bs with
  | nil=>intro m; funext x; simp
  | cons p r ih =>
   intro m
   rw [List.foldl_cons,ih]
   funext x
   rw [List.reverse_cons,List.lookup_append]
   cases r.reverse.lookup x with
   | some v=>simp
   | none =>
    simp only [Option.none_or,upd,List.lookup]
    by_cases e : x = p.1
    ·subst e; simp
    ·have : (x == p.1) = false:=by simpa using e
     simp [e,this]
 funext x
 unfold bindM
 rw [this]
 simp
theorem TC.fn {f : Addr} {o : Obj} {fd : FuncData} {body : List Stmt} {args : Args} {binds : List (Str × Value)} {Q : Value → Heap → Prop} (lD : List (Addr × Obj))
  (hroom : A.depth < recursionLimit) (ho : h.get? f = some o) (hdata : o.data = .func fd) (hlim : h.NoLimit) (hcd : h.CodeRec fd.code fd.qualname) (hbody : fd.body = .stmts body) (hbind : bindArgs fd args = Pure.pure binds)
  (hcell : ∀ x ∈ fd.scope.names,x.2 ≠ .cell) (hloc : ∀ x ∈ binds,fd.scope.names.lookup x.1 = some .local)
  (hl : ∀ p ∈ lD,h.get? p.1 = some p.2) (nd : (lD.map (·.1)).Nodup)
  (k : ∀ h₁ L,S h (lD.map (·.1)) L (bindM binds) lD h₁ → h.get? L = none → T prog w (A.deeper (callEnv fd L f)) (execs body (callEnv fd L f)) h₁ fun fl h'=>Q (match fl with | .ret v=>v | _ => .none) h')
  (hco : fd.scope.isCoroutine = false) (hgen : fd.scope.isGenerator = false) (hk : fd.scope.kind = .function) : TC prog w A (.call (.ref f) args) h Q:=fun s e=>by
 subst e
 refine codeAny_call_def (binds:=binds) hroom ho hdata hlim hcd hbody (BindsTo.of_eq hbind) hcell hloc (fun h₁ hns hkeep => ?_) hco hgen hk
 have H : S s.heap (lD.map (·.1)) s.heap.objs.size (bindM binds) lD h₁:={
  base:=fun b o zz e=>hkeep b o e
  ns:=by rw [← bindM_eq]; exact hns
  led:=fun p hp=>hkeep _ _ (hl p hp)
  own:=fun p hp => .inl (List.mem_map_of_mem hp)
  nodup:=nd
  offL:=fun q=>by
   obtain ⟨p,hp,e⟩:=List.mem_map.mp q
   have:=hl p hp
   rw [e,get_size_none] at this; cases this
  newL:=get_size_none _
  dl:=fun d hd=>hd }
 refine T.nx (k h₁ _ H (get_size_none _)) (by
  rintro fl h' tk q
  exact ⟨_,_,_,q⟩)
end
end Mine
end
section
namespace Mine
section
variable {prog : Program} {w : World} {A : Around} {h h' h₀ : Heap} {env : Env} {D : List Addr} {L : Addr} {m m' : Str → Option Value} {l : List (Addr × Obj)}
noncomputable def noHeap : Heap:={}
noncomputable def allBut (h : Heap) (L : Addr) : List (Addr × Obj):=(List.range h.objs.size).filterMap fun a=>if a = L then none else (h.get? a).map fun o=>(a,o)
set_option tactic.hygienic true in
theorem mem_allBut {a : Addr} {o : Obj} : (a,o) ∈ allBut h L ↔ a ≠ L ∧ h.get? a = some o:=by
 unfold allBut
 rw [List.mem_filterMap]
 constructor
 ·rintro ⟨b,_,e⟩
  split at e
  ·cases e
  ·rename_i n
   obtain ⟨o',e1,e2⟩:=Option.map_eq_some_iff.mp e
   cases e2
   exact ⟨n,e1⟩
 ·rintro ⟨n,e⟩
  exact ⟨a,List.mem_range.mpr (Heap.lt_size e),by simp [n,e]⟩
theorem allBut_nodup : ((allBut h L).map (·.1)).Nodup:=by
 unfold allBut
 rw [List.map_filterMap]
 have : (List.range h.objs.size).filterMap (fun a=>Option.map (·.1) (if a = L then none else (h.get? a).map fun o=>(a,o))) = (List.range h.objs.size).filter fun a=>decide (a ≠ L) && (h.get? a).isSome:=by
  rw [← List.filterMap_eq_filter]
  congr 1
  funext a
  by_cases e : a = L
  ·simp [e,Option.guard]
  ·cases q : h.get? a <;> simp [e,q,Option.guard]
 rw [this]
 exact (List.nodup_range).sublist List.filter_sublist
theorem noHeap_get (a : Addr) : noHeap.get? a = none:=rfl
theorem frAll (hn : h.Ns L m) : Fr noHeap L h m:=⟨hn,fun b o e=>absurd e (by rw [noHeap_get]; intro q; cases q),Nat.zero_le _⟩
theorem newsAll : News noHeap L h (allBut h L):=fun p hp=>⟨(mem_allBut.mp hp).2,(mem_allBut.mp hp).1,noHeap_get _⟩
theorem all_split {d : Addr} {o : Obj} (ho : h.get? d = some o) (hd : d ≠ L) : ∃ pre post,allBut h L = pre ++ (d,o) :: post ∧ (∀ p ∈ pre,p.1 ≠ d) ∧ ∀ p ∈ post,p.1 ≠ d:=by
 obtain ⟨pre,post,e⟩:=List.append_of_mem (mem_allBut.mpr ⟨hd,ho⟩)
 have nd:=allBut_nodup (h:=h) (L:=L)
 rw [e,List.map_append,List.map_cons] at nd
 have nd2:=List.nodup_append.mp nd
 refine ⟨pre,post,e,fun p hp q => ?_,fun p hp q => ?_⟩
 ·exact nd2.2.2 p.1 (List.mem_map_of_mem hp) d (.head _) q
 ·have:=(List.nodup_cons.mp nd2.2.1).1
  exact this (List.mem_map.mpr ⟨p,hp,q⟩)
theorem sub_of_news {extra : List (Addr × Obj)} (N : News noHeap L h' (extra ++ allBut h L)) : Sub [L] h h':=fun b o n e =>
 (N (b,o) (List.mem_append_right _ (mem_allBut.mpr ⟨by simpa using n,e⟩))).1
theorem sub_of_split {d : Addr} {o o' : Obj} {pre post : List (Addr × Obj)} (e : allBut h L = pre ++ (d,o) :: post) (N : News noHeap L h' (pre ++ (d,o') :: post)) : Sub [L,d] h h' ∧ h'.get? d = some o' :=
 ⟨fun b ob n eb=>by
  have hm : (b,ob) ∈ allBut h L:=mem_allBut.mpr ⟨fun q=>n (by simp [q]),eb⟩
  rw [e] at hm
  refine (N (b,ob) ?_).1
  rcases List.mem_append.mp hm with x | x
  ·exact List.mem_append_left _ x
  ·rcases List.mem_cons.mp x with x | x
   ·exact absurd (by cases x; simp) n
   ·exact List.mem_append_right _ (.tail _ x),(N (d,o') (List.mem_append_right _ (.head _))).1⟩
theorem S.frame (H : S h₀ D L m l h) (x : Sub [L] h h') (hn : h'.Ns L m') : S h₀ D L m' l h' where
 base:=fun b o n e=>x b o (fun q=>by
  have q : b = L:=by simpa using q
  subst q; rw [H.newL] at e; cases e) (H.base b o n e)
 ns:=hn
 led:=fun p hp=>x _ _ (fun q=>H.offL (by
  have q : p.1 = L:=by simpa using q
  exact List.mem_map.mpr ⟨p,hp,q⟩)) (H.led p hp)
 own:=H.own
 nodup:=H.nodup
 offL:=H.offL
 newL:=H.newL
 dl:=H.dl
set_option tactic.hygienic true in
theorem S.frameUpd {d : Addr} {o o' : Obj} (H : S h₀ D L m l h) (i : Nat) (hi : l[i]? = some (d,o)) (x : Sub [L,d] h h') (ho : h'.get? d = some o') (hn : h'.Ns L m') : S h₀ D L m' (l.set i (d,o')) h':=by
 have H':=H.upd (h':=h') (o':=o') i hi
 have hdL : d ≠ L:=fun q=>H.offL (q ▸ List.mem_map.mpr ⟨_,List.mem_of_getElem? hi,rfl⟩)
 have e : (l.set i (d,o')).map (·.1) = l.map (·.1):=by
  rw [List.map_set]
  refine List.ext_getElem (by walk_at "ms") fun j h1 h2 => ?_
  rw [List.getElem_set]
  split
  ·rename_i e; subst e
   have hi' : i < l.length:=by simpa using h2
   rw [List.getElem?_eq_getElem hi'] at hi
   have:=Option.some.inj hi
   simp [this]
  ·rfl
 refine { base:=fun b ob n eb => ?_,ns:=hn,led:=fun p hp => ?_,own:=fun p hp => ?_,nodup:=e ▸ H.nodup,offL:=e ▸ H.offL,newL:=H.newL,dl:=e ▸ H.dl }
 ·refine x b ob (fun q => ?_) (H.base b ob n eb)
  rcases List.mem_cons.mp q with q | q
  ·subst q; rw [H.newL] at eb; cases eb
  ·obtain rfl : b = d:=by simpa using q
   rcases H.own (b,o) (List.mem_of_getElem? hi) with y | y
   ·exact n y
   ·rw [y] at eb; cases eb
 ·obtain ⟨j,hj,rfl⟩:=List.getElem_of_mem hp
  rw [List.getElem_set] at *
  rw [List.length_set] at hj
  split
  ·exact ho
  ·rename_i ne
   refine x _ _ (fun q => ?_) (H.led _ (List.getElem_mem hj))
   rcases List.mem_cons.mp q with q | q
   ·exact H.offL (q ▸ List.mem_map_of_mem (List.getElem_mem hj))
   ·have hi' : i < l.length:=by
     rcases Nat.lt_or_ge i l.length with y | y
     ·exact y
     ·rw [List.getElem?_eq_none y] at hi; cases hi
    have e1 : l[i] = (d,o):=by rw [List.getElem?_eq_getElem hi'] at hi; exact Option.some.inj hi
    have e2 : l[j].1 = d:=by simpa using q
    have nd:=List.pairwise_iff_getElem.mp H.nodup
    rcases Nat.lt_trichotomy i j with y | y | y
    ·exact nd i j (by simpa using hi') (by simpa using hj) y (by simp [e1,e2])
    ·exact ne y
    ·exact nd j i (by simpa using hj) (by simpa using hi') y (by simp [e1,e2])
 ·rcases List.mem_or_eq_of_mem_set hp with y | y
  ·exact H.own p y
  ·subst y; exact H.own (d,o) (List.mem_of_getElem? hi)
noncomputable def keyS : Value → Str
 | .str s _=>s
 | _=>Str.empty
noncomputable def IsAttrs (N : List Str) (od : Obj) (am : Str → Option Value) : Prop :=
 ∃ es n,od = dictOf es n ∧ (∀ x,(es.find? (·.key.isStr x)).map (·.val) = am x) ∧ (∀ e ∈ es,∃ s ∈ N,∃ t,e.key = .str s t) ∧ (es.map fun e=>keyS e.key).Nodup
theorem IsAttrs.nil {N : List Str} : IsAttrs N (dictOf [] 0) fun zz=>none:=⟨[],0,rfl,fun zz=>rfl,fun e he=>(nomatch he),.nil⟩
theorem noRef {N : List Str} {es : List DictEntry} (hk : ∀ e ∈ es,∃ s ∈ N,∃ t,e.key = .str s t) : es.any (·.refKey) = false:=by
 rw [List.any_eq_false]
 intro e he
 obtain ⟨s,_,t,e1⟩:=hk e he
 simp [DictEntry.refKey,e1]
theorem getL_of {N : List Str} {es : List DictEntry} {am : Str → Option Value} (hk : ∀ e ∈ es,∃ s ∈ N,∃ t,e.key = .str s t) (hf : ∀ x,(es.find? (·.key.isStr x)).map (·.val) = am x) (x : Str) : getL x es = some (am x):=by
 unfold getL
 have:=hf x
 cases e : es.find? (·.key.isStr x) with
 | some en=>rw [e] at this; simp only [Option.map_some] at this; rw [← this]
 | none=>rw [e] at this; simp only [Option.map_none] at this; rw [← this,noRef hk]; rfl
theorem length_le_of_nodup : ∀ {l N : List Str},l.Nodup → (∀ x ∈ l,x ∈ N) → l.length ≤ N.length
 | [],_,_,_=>Nat.zero_le _
 | a :: l,N,hn,hs=>by
  have h1:=(List.nodup_cons.mp hn)
  have ha:=hs a (.head _)
  have:=length_le_of_nodup (l:=l) (N:=N.erase a) h1.2 fun x hx=>by
   have ne : x ≠ a:=fun q=>h1.1 (by rw [← q]; exact hx)
   exact (List.mem_erase_of_ne ne).mpr (hs x (.tail _ hx))
  rw [List.length_erase_of_mem ha] at this
  have hp : 0 < N.length:=List.length_pos_of_mem ha
  rw [List.length_cons]; omega
theorem attrs_len {N : List Str} {es : List DictEntry} (hk : ∀ e ∈ es,∃ s ∈ N,∃ t,e.key = .str s t) (hn : (es.map fun e=>keyS e.key).Nodup) : es.length ≤ N.length:=by
 have:=length_le_of_nodup hn (N:=N) fun x hx=>by
  obtain ⟨e,he,rfl⟩:=List.mem_map.mp hx
  obtain ⟨s,hs,t,e1⟩:=hk e he
  rw [e1]; exact hs
 simpa using this
theorem isStr_iff {N : List Str} {e : DictEntry} (hk : ∃ s ∈ N,∃ t,e.key = .str s t) (x : Str) : e.key.isStr x = decide (keyS e.key = x):=by
 obtain ⟨s,_,t,e1⟩:=hk
 rw [e1]
 by_cases q : s = x
 ·simp [Value.isStr,keyS,q]
 ·simp [Value.isStr,keyS,q]
theorem attrs_put {N : List Str} {x : Str} {hs : Int} {v : Value} {t : Tok} (hx : x ∈ N) : ∀ {es : List DictEntry} {am : Str → Option Value},(∀ x,(es.find? (·.key.isStr x)).map (·.val) = am x) → (∀ e ∈ es,∃ s ∈ N,∃ t,e.key = .str s t) → (es.map fun e=>keyS e.key).Nodup →
  (∀ y,((putL x hs (.str x t) v es).find? (·.key.isStr y)).map (·.val) = upd am x v y) ∧ (∀ e ∈ putL x hs (.str x t) v es,∃ s ∈ N,∃ t,e.key = .str s t) ∧ ((putL x hs (.str x t) v es).map fun e=>keyS e.key).Nodup ∧ (∀ y,y ∈ (putL x hs (.str x t) v es).map (fun e=>keyS e.key) ↔ y = x ∨ y ∈ es.map fun e=>keyS e.key)
 | [],am,hf,_,_=>by
  refine ⟨fun y => ?_,fun e he => ?_, ?_, ?_⟩
  ·have:=hf y
   by_cases e : y = x
   ·subst e; simp [putL,Value.isStr,upd]
   ·have n : (x == y) = false:=by simpa using fun q=>e q.symm
    simp only [List.find?_nil,Option.map_none] at this
    simp [putL,Value.isStr,upd,e,n,← this]
  ·simp only [putL,List.mem_singleton] at he; subst he; exact ⟨x,hx,t,rfl⟩
  ·simp [putL]
  ·intro y; simp [putL,keyS]
 | en :: r,am,hf,hk,hn=>by
  have hke:=hk en (.head _)
  unfold putL
  cases q : en.key.isStr x with
  | true =>
   have hxe : keyS en.key = x:=by have:=isStr_iff hke x; rw [q] at this; exact of_decide_eq_true this.symm
   simp only [if_true]
   refine ⟨fun y => ?_,fun e he => ?_,hn, ?_⟩
   ·by_cases e : y = x
    ·subst e; simp [q,upd]
    ·have n : en.key.isStr y = false:=by rw [isStr_iff hke,hxe]; exact decide_eq_false fun z=>e z.symm
     have:=hf y
     rw [List.find?_cons,n] at this
     simp only [List.find?_cons,n,upd,if_neg e]
     exact this
   ·rcases List.mem_cons.mp he with he | he
    ·subst he; exact hke
    ·exact hk e (.tail _ he)
   ·intro y; simp [hxe]
  | false =>
   have hxe : keyS en.key ≠ x:=by have:=isStr_iff hke x; rw [q] at this; exact of_decide_eq_false this.symm
   simp only [Bool.false_eq_true,if_false]
   rw [List.map_cons,List.nodup_cons] at hn
   obtain ⟨i1,i2,i3,i4⟩:=attrs_put hx (es:=r) (am:=fun y=>(r.find? (·.key.isStr y)).map (·.val)) (hs:=hs) (v:=v) (t:=t) (fun zz=>rfl) (fun e he=>hk e (.tail _ he)) hn.2
   refine ⟨fun y => ?_,fun e he => ?_, ?_, ?_⟩
   ·have:=hf y
    rw [List.find?_cons] at this ⊢
    cases n : en.key.isStr y with
    | true =>
     rw [n] at this
     have e : y ≠ x:=fun z=>by subst z; rw [q] at n; cases n
     simp only [upd,if_neg e]
     exact this
    | false =>
     rw [n] at this
     have j:=i1 y
     simp only [upd] at j ⊢
     rw [this] at j
     exact j
   ·rcases List.mem_cons.mp he with he | he
    ·subst he; exact hke
    ·exact i2 e he
   ·rw [List.map_cons,List.nodup_cons]
    refine ⟨fun z => ?_,i3⟩
    rcases (i4 _).mp z with z | z
    ·exact hxe z
    ·exact hn.1 z
   ·intro y
    rw [List.map_cons,List.map_cons,List.mem_cons,List.mem_cons,i4]
    constructor
    ·rintro (z | z | z)
     ·exact .inr (.inl z)
     ·exact .inl z
     ·exact .inr (.inr z)
    ·rintro (z | z | z)
     ·exact .inr (.inl z)
     ·exact .inl z
     ·exact .inr (.inr z)
end
end Mine
end
section
namespace Mine
section
variable {prog : Program} {w : World} {A : Around} {h h' h₀ : Heap} {env : Env} {D : List Addr} {L : Addr} {m m' : Str → Option Value} {l : List (Addr × Obj)} {K : Frag} {C x dx : Addr} {od : Obj} {am : Str → Option Value} {N : List Str}
structure Plain (K : Frag) (C : Addr) : Prop where
 ga : findIn K (.ref C) "__getattribute__" = some (some (.builtin "object.__getattribute__"))
 gt : findIn K (.ref C) "__getattr__" = some none
 sa : findIn K (.ref C) "__setattr__" = some (some (.builtin "object.__setattr__"))
 over : plainOver K C = true
 hd : hasDictIn K C = true
structure Inst (h : Heap) (x C dx : Addr) (od : Obj) : Prop where
 ob : h.get? x = some (instObj C dx)
 dict : h.get? dx = some od
theorem Inst.at (I : Inst h x C dx od) : InstAt h x (instObj C dx) C (some od):=⟨I.ob,rfl,rfl,I.dict⟩
theorem T.getAttr {name : Str} {v : Value} {e : Bool} {Q : Value → Heap → Prop} (P : Plain K C) (X : K.In h) (I : Inst h x C dx od) (ia : IsAttrs N od am) (hv : am name = some v) (hc : findIn K (.ref C) name = some none) (hh : handedIn v = true)
  (q : Q v h) : T prog w A (getAttr (.ref x) name e) h Q:=fun s es=>by
 subst es
 obtain ⟨es,n,rfl,hf,hk,hnd⟩:=ia
 have hg:=getL_of hk hf
 exact get_value X I.at P.ga (findObj_own P.hd hc rfl (by rw [lookIn_dict,hg,hv])) hh ⟨_,_,q⟩
theorem T.getMeth {name : Str} {f : Addr} {pl : Sem Bool} {Q : Value × List Value → Heap → Prop} (P : Plain K C) (X : K.In h) (I : Inst h x C dx od) (ia : IsAttrs N od am) (hv : am name = none) (hf : findIn K (.ref C) name = some (some (.ref f))) (ht : typeIn K (.ref f) = some (.type "function"))
  (q : Q (.ref f,[.ref x]) h) : T prog w A (getMethod (.ref x) name pl) h Q:=fun s es=>by
 subst es
 obtain ⟨es,n,rfl,hff,hk,hnd⟩:=ia
 have hg:=getL_of hk hff
 refine method_fn X I.at P.ga P.gt hf ht ?_ ⟨_,s.toks,q⟩
 show (lookIn name (dictOf es n)).map _ = _
 rw [lookIn_dict,hg,hv]; rfl
theorem T.setAttr {name : Str} {v : Value} {Q : Unit → Heap → Prop} (P : Plain K C) (X : K.In h) (H : S h₀ D L m l h) (i : Nat) (hi : l[i]? = some (dx,od)) (ho : h.get? x = some (instObj C dx)) (ia : IsAttrs N od am) (hc : takerIn K C name = some none)
  (q : ∀ h' od',S h₀ D L m (l.set i (dx,od')) h' → h'.get? x = some (instObj C dx) → IsAttrs N od' (upd am name v) → (∀ b o,b ≠ L → b ≠ dx → h.get? b = some o → h'.get? b = some o) → Q () h') (hN : name ∈ N) (hz : N.length ≤ 1000) : T prog w A (setAttr (.ref x) name v) h Q:=fun s es=>by
 subst es
 obtain ⟨es,n,rfl,hf,hk,hnd⟩:=ia
 have hg:=getL_of hk hf
 have hdx : s.heap.get? dx = some (dictOf es n):=H.get (List.mem_of_getElem? hi)
 have hdL : dx ≠ L:=fun q=>H.offL (q ▸ List.mem_map.mpr ⟨_,List.mem_of_getElem? hi,rfl⟩)
 have hxL : x ≠ L:=fun q=>by
  obtain ⟨oL,es',ep,hL,hd,_⟩:=H.ns
  rw [← q,ho] at hL
  cases hL
  cases hd
 have hxd : x ≠ dx:=fun q=>by
  rw [q,hdx] at ho
  cases ho
 obtain ⟨pre,post,e,n1,n2⟩:=all_split hdx hdL
 have I : InstAt s.heap x (instObj C dx) C (some (dictOf es n)):=⟨ho,rfl,rfl,hdx⟩
 refine set_plain X I P.sa (osa_dict (s:={ s with toks:=s.toks + 1 }) (pre:=pre) (post:=post) (es:=putL name (PyData.keyHash w.params name) (.str name (s.toks + 1)) v es) (n:=putN name es n) (frAll H.ns) (e ▸ newsAll) X I rfl P.over hc P.hd ?_ n1 n2 (putName_dict ..) rfl ?_ fun h' F' N' => ?_)
 ·rw [lookIn_dict,hg]; rfl
 ·obtain ⟨_,i2,i3,_⟩:=attrs_put (hs:=PyData.keyHash w.params name) (v:=v) (t:=s.toks + 1) hN hf hk hnd
  exact Nat.le_trans (attrs_len i2 i3) hz
 ·obtain ⟨s1,s2⟩:=sub_of_split e N'
  obtain ⟨i1,i2,i3,_⟩:=attrs_put (hs:=PyData.keyHash w.params name) (v:=v) (t:=s.toks + 1) hN hf hk hnd
  exact ⟨h',_,q h' _ (H.frameUpd i hi s1 s2 F'.ns) (s1 _ _ (by simp [hxL,hxd]) ho) ⟨_,_,rfl,i1,i2,i3⟩ fun b o nL nd eb=>s1 b o (by simp [nL,nd]) eb⟩
end
end Mine
end
section
namespace Mine
section
variable {prog : Program} {w : World} {A : Around} {h h' h₀ : Heap} {env : Env} {D : List Addr} {L : Addr} {m m' : Str → Option Value} {l : List (Addr × Obj)}
noncomputable def IsLst (o : Obj) (vs : List Value) : Prop := ∃ n,o = { cls := .type "list",data := .seq vs.toArray n }
noncomputable def IsTupO (o : Obj) (vs : List Value) : Prop := ∃ n,o = { cls := .type "tuple",data := .seq vs.toArray n }
noncomputable abbrev IsDic (prog : Program) (w : World) (o : Obj) (kvs : List (Int × Value)) : Prop:=o.IsDictOf (intKind prog w) kvs
theorem t_List {elts : List PySem.Expr} {pos : Pos} {Q : Value → Heap → Prop} (x : TArgs prog w A env elts h fun vs h₁=>vs.length ≤ sizeLine ∧ ∀ a h' o,Sub [] h₁ h' → h₁.get? a = none → h'.get? a = some o → IsLst o vs → Q (.ref a) h') (hs : noStars elts = true) :
  T prog w A (eval (.List elts pos) env) h Q:=fun s es=>List_ (T.el (TArgs.wp (noStars_of hs) x) es (by
   rintro vs h₁ t₁ ⟨hsz,q⟩
   exact wpAny_newObj_type (dict:=none) ⟨_,_,q _ _ _ (Sub.push _ _) (get_size_none _) (get_push_self _ _) ⟨0,rfl⟩⟩ (by show vs.toArray.size ≤ sizeLine; simpa using hsz)))
theorem IsLst.isList {a : Addr} {o : Obj} {vs : List Value} (ho : h.get? a = some o) (x : IsLst o vs) : h.IsList a vs.toArray:=let ⟨n,e⟩:=x; ⟨o,ho,by rw [e],n,by rw [e]⟩
theorem t_append {a : Addr} {o : Obj} {vs : List Value} {v : Value} {Q : Value → Heap → Prop} (ho : h.get? a = some o) (hl : IsLst o vs) (hsz : vs.length ≤ sizeLine)
  (q : ∀ h' o',Sub [a] h h' → h'.get? a = some o' → IsLst o' (vs ++ [v]) → Q .none h') : T prog w A (PySem.call (.builtin "list.append") [.ref a,v]) h Q:=fun s es=>by
 subst es
 obtain ⟨n,rfl⟩:=hl
 refine wpAny_list_append_plain (items:=vs.toArray) ⟨n,ho⟩ (fun h' hp hs => ?_) (by simpa using hsz)
 obtain ⟨n',ho'⟩:=hp
 exact ⟨h',s.toks,q h' _ (Sub.same hs) ho' ⟨n',by simp⟩⟩
end
end Mine
end
section
namespace Mine
section
variable {prog : Program} {w : World} {A : Around} {h h' h₀ : Heap} {env : Env} {D : List Addr} {L : Addr} {m m' : Str → Option Value} {l l' : List (Addr × Obj)}
theorem S.perm (H : S h₀ D L m l h) (p : l.Perm l') : S h₀ D L m l' h where
 base:=H.base
 ns:=H.ns
 led:=fun q hq=>H.led q (p.mem_iff.mpr hq)
 own:=fun q hq=>H.own q (p.mem_iff.mpr hq)
 nodup:=(p.map _).nodup_iff.mp H.nodup
 offL:=fun q=>H.offL ((p.map _).mem_iff.mpr q)
 newL:=H.newL
 dl:=fun d hd=>(p.map _).mem_iff.mp (H.dl d hd)
theorem S.addEnd {a : Addr} {o : Obj} (H : S h₀ D L m l h) (x : Sub [] h h') (hn : h.get? a = none) (ho : h'.get? a = some o) : S h₀ D L m (l ++ [(a,o)]) h':=(H.add x hn ho).perm (List.perm_append_singleton _ _).symm
theorem S.updEnd {a : Addr} {o o' : Obj} (H : S h₀ D L m (l ++ [(a,o)]) h) (x : Sub [a] h h') (ho : h'.get? a = some o') : S h₀ D L m (l ++ [(a,o')]) h':=by
 have:=H.upd (o:=o) l.length (by walk_at "ms") x ho
 simpa using this
theorem S.dropEnd {l₂ : List (Addr × Obj)} (H : S h₀ D L m (l ++ l₂) h) (hd : ∀ d ∈ D,d ∈ l.map (·.1)) : S h₀ D L m l h:=H.drop (List.sublist_append_left _ _) hd
theorem S.getEnd {a : Addr} {o : Obj} (H : S h₀ D L m (l ++ [(a,o)]) h) : h.get? a = some o:=H.get (by walk_at "ms")
theorem t_assignName {x : Str} {px : Pos} {v : Value} {Q : Unit → Heap → Prop} (e : EnvOk env) (H : S h₀ D env.locals m l h) (q : ∀ h',S h₀ D env.locals (upd m x v) l h' → Q () h') (hl : env.kindOf x = some .local) : T prog w A (assign (.Name x px) env v) h Q :=
 fun s es=>wpAny_assign_Name (T.storeName e H q hl s es)
noncomputable def updAll (m : Str → Option Value) : List Str → List Value → Str → Option Value
 | x :: xs,v :: vs=>updAll (upd m x v) xs vs
 | _,_=>m
theorem t_assignNames {px : Pos} (e : EnvOk env) : ∀ {xs : List (Str × Pos)} {vs : List Value} {h : Heap} {m : Str → Option Value} {Q : Unit → Heap → Prop},S h₀ D env.locals m l h → xs.length = vs.length → (∀ x ∈ xs,env.kindOf x.1 = some .local) →
  (∀ h',S h₀ D env.locals (updAll m (xs.map (·.1)) vs) l h' → Q () h') → T prog w A (assignInOrder ((assignEach (xs.map fun x=>PySem.Expr.Name x.1 x.2) env).map (·.2)) vs) h Q
 | [],[],h,m,Q,H,_,_,q=>T.pure (q h H)
 | x :: xs,v :: vs,h,m,Q,H,hn,hk,q=>by
  refine T.eq (t':=(do PySem.holding vs (assign (.Name x.1 x.2) env v); assignInOrder ((assignEach (xs.map fun x=>PySem.Expr.Name x.1 x.2) env).map (·.2)) vs)) rfl ?_
  exact T.bind (T.holding (t_assignName e H (fun h' H'=>t_assignNames (px:=px) e H' (by simpa using hn) (fun x hx=>hk x (.tail _ hx)) q) (hk x (.head _))))
 | [],_ :: _,_,_,_,_,hn,_,_=>by simp at hn
 | _ :: _,[],_,_,_,_,hn,_,_=>by simp at hn
theorem S.track {a : Addr} {o : Obj} (H : S h₀ D L m l h) (ho : h.get? a = some o) (hn : h₀.get? a = none) (hL : a ≠ L) (hl : a ∉ l.map (·.1)) : S h₀ D L m (l ++ [(a, o)]) h :=
  S.perm (l := (a, o) :: l) { base := H.base, ns := H.ns, led := fun p hp => by
                                rcases List.mem_cons.mp hp with rfl | hp
                                · exact ho
                                · exact H.led p hp
                              own := fun p hp => by
                                rcases List.mem_cons.mp hp with rfl | hp
                                · exact .inr hn
                                · exact H.own p hp
                              nodup := by rw [List.map_cons, List.nodup_cons]; exact ⟨hl, H.nodup⟩
                              offL := by rw [List.map_cons, List.mem_cons]; exact fun q => q.elim (fun q => hL q.symm) H.offL
                              newL := H.newL, dl := fun d hd => List.mem_cons_of_mem _ (H.dl d hd) } (List.perm_append_singleton _ _).symm
theorem S.fresh {a : Addr} (H : S h₀ D L m l h) (hn : h.get? a = none) : h₀.get? a = none ∧ a ≠ L ∧ a ∉ l.map (·.1):=by
 have hl : a ∉ l.map (·.1):=fun q=>by
  obtain ⟨p,hp,e⟩:=List.mem_map.mp q
  have:=H.led p hp
  rw [e,hn] at this; cases this
 refine ⟨?_,fun q => ?_,hl⟩
 ·cases e : h₀.get? a with
  | none=>rfl
  | some o =>
   have:=H.base a o (fun q=>hl (H.dl a q)) e
   rw [hn] at this; cases this
 ·obtain ⟨oL,_,_,e,_⟩:=H.ns
  rw [← q,hn] at e; cases e
theorem S.keepBut {X : List Addr} (H : S h₀ D L m l h) (x : Sub X h h') (hX : ∀ b ∈ X,b ∉ D ∧ h₀.get? b = none ∧ b ≠ L ∧ b ∉ l.map (·.1)) : S h₀ D L m l h' where
 base:=fun b ob n eb=>x b ob (fun q=>by rw [(hX b q).2.1] at eb; cases eb) (H.base b ob n eb)
 ns:=by
  obtain ⟨oL,a1,a2,a3,a4⟩:=H.ns
  exact ⟨oL,a1,a2,x _ _ (fun q=>(hX L q).2.2.1 rfl) a3,a4⟩
 led:=fun p hp=>x _ _ (fun q=>(hX p.1 q).2.2.2 (List.mem_map_of_mem hp)) (H.led p hp)
 own:=H.own
 nodup:=H.nodup
 offL:=H.offL
 newL:=H.newL
 dl:=H.dl
theorem S.ownEnd {E : List (Addr × Obj)} (H : S h₀ D L m (l ++ E) h) (hd : ∀ d ∈ D,d ∈ l.map (·.1)) : ∀ b ∈ E.map (·.1),b ∉ D ∧ h₀.get? b = none ∧ b ≠ L ∧ b ∉ l.map (·.1):=fun b hb=>by
 have nd:=H.nodup
 rw [List.map_append,List.nodup_append] at nd
 have nl : b ∉ l.map (·.1):=fun q=>nd.2.2 b q b hb rfl
 have nD : b ∉ D:=fun q=>nl (hd b q)
 obtain ⟨p,hp,rfl⟩:=List.mem_map.mp hb
 refine ⟨nD,(H.own p (List.mem_append_right _ hp)).resolve_left nD,fun q=>H.offL ?_,nl⟩
 rw [List.map_append]
 exact List.mem_append_right _ (q ▸ hb)
end
end Mine
end
section
namespace Mine
section
variable {prog : Program} {w : World} {A : Around} {h h' h₀ : Heap} {env : Env} {D : List Addr} {L : Addr} {m m' : Str → Option Value} {l l' : List (Addr × Obj)} {K : Frag}
structure FnOk (K : Frag) (f : Addr) (fd : FuncData) (body : List Stmt) : Prop where
 lk : ∃ o,K.lookup f = some o ∧ o.data = .func fd
 cd : codeIn K fd.code fd.qualname = true
 body : fd.body = .stmts body
 cell : (fd.scope.names.all fun x=>x.2 != .cell) = true
 co : fd.scope.isCoroutine = false
 gen : fd.scope.isGenerator = false
 kind : fd.scope.kind = .function
 glob : fd.globals = mainGlobals
 blt : fd.builtins = builtinsNs
theorem FnOk.ok {f : Addr} {fd : FuncData} {body : List Stmt} (F : FnOk K f fd body) (L : Addr) : EnvOk (callEnv fd L f):=⟨F.kind,F.glob,F.blt,by
 unfold interactive; simp [callEnv,newEnv,F.kind]⟩
theorem TC.def {f : Addr} {fd : FuncData} {body : List Stmt} {args : List Value} {binds : List (Str × Value)} {Q : Value → Heap → Prop} (lD : List (Addr × Obj)) (F : FnOk K f fd body) (G : Gr K h) (hroom : A.depth < recursionLimit)
  (hbind : bindArgs fd ⟨args,[]⟩ = Pure.pure binds) (hloc : (binds.map (·.1)).all (fun x=>decide (fd.scope.names.lookup x = some .local)) = true) (hl : ∀ p ∈ lD,h.get? p.1 = some p.2) (nd : (lD.map (·.1)).Nodup)
  (k : ∀ h₁ L,S h (lD.map (·.1)) L (bindM binds) lD h₁ → T prog w (A.deeper (callEnv fd L f)) (execs body (callEnv fd L f)) h₁ fun fl h'=>Q (match fl with | .ret v=>v | _ => .none) h') : TC prog w A (.call (.ref f) ⟨args,[]⟩) h Q:=by
 obtain ⟨o,ho,hd⟩:=F.lk
 refine TC.fn lD hroom (G.k _ _ ho) hd G.nolimit (codeRec_of G.k F.cd) F.body hbind (fun x hx => ?_) (fun x hx => ?_) hl nd (fun h₁ L H zz=>k h₁ L H) F.co F.gen F.kind
 ·have:=List.all_eq_true.mp F.cell x hx
  simpa using this
 ·have:=List.all_eq_true.mp hloc x.1 (List.mem_map_of_mem hx)
  exact of_decide_eq_true this
theorem t_getMethodB {a : Addr} {o : Obj} {T' : String} {name : Str} {id : String} {pl : Sem Bool} {Q : Value × List Value → Heap → Prop} (ho : h.get? a = some o) (hc : o.cls = .type T') (hd : o.dict = none) (pa : PlainAttrs T') (slot : Slot T' name id)
  (hty : typeOf (.builtin id) = Pure.pure (.type "method_descriptor")) (q : Q (.builtin id,[.ref a]) h) : T prog w A (getMethod (.ref a) name pl) h Q:=fun s es=>by
 subst es
 exact getMethod_builtin (T:=T') ⟨o,ho,hc⟩ pa slot hty (fun b e=>by cases e; exact ⟨o,ho,hd⟩) ⟨_,s.toks,q⟩
theorem IsDic.cls {o : Obj} {kvs : List (Int × Value)} (x : IsDic prog w o kvs) : o.cls = .type "dict" ∧ o.dict = none:=let ⟨_,_,a,_⟩:=x; ⟨a.1,a.2.1⟩
theorem IsLst.cls {o : Obj} {vs : List Value} (x : IsLst o vs) : o.cls = .type "list" ∧ o.dict = none:=let ⟨_,e⟩:=x; by subst e; exact ⟨rfl,rfl⟩
theorem t_isTrue_plain {e : PySem.Expr} {whole : Sem Value} {Q : Bool → Heap → Prop} (t : T prog w A whole h fun v h₁=>T prog w A (truthy v) h₁ Q) (he : isTrue e env whole = (do let v ← whole; PySem.standAt e.pos; PySem.holding [v] (truthy v)):=by rfl) : T prog w A (isTrue e env whole) h Q :=
 T.eq he (T.bind (t.mono fun v h₁ x=>T.bind (T.standAt (T.holding x))))
theorem t_truthy_none {Q : Bool → Heap → Prop} (q : Q false h) : T prog w A (truthy .none) h Q:=fun s es=>by subst es; exact truthy_none ⟨_,s.toks,q⟩
theorem t_isTrue_and {x : PySem.Expr} {rest : List PySem.Expr} {pos : Pos} {whole : Sem Value} {Q : Bool → Heap → Prop} (t : T prog w A (isTrue x env (eval x env)) h fun c h₁=>if c = true then T prog w A (isTrue (.BoolOp .And rest pos) env whole) h₁ Q else Q false h₁) :
  T prog w A (isTrue (.BoolOp .And (x :: rest) pos) env whole) h Q:=fun s es=>isTrue_and (T.el t es (by
   rintro c h₁ t₁ z
   cases c with
   | true=>exact (T.out z)
   | false=>exact ⟨_,_,z⟩))
theorem t_isTrue_and0 {pos : Pos} {whole : Sem Value} {Q : Bool → Heap → Prop} (q : Q true h) : T prog w A (isTrue (.BoolOp .And [] pos) env whole) h Q:=fun s es=>isTrue_and_nil (.here es q)
theorem t_len {a : Addr} {vs : List Value} {Q : Value → Heap → Prop} (hl : h.IsList a vs.toArray) (hz : vs.length < 2 ^ 62) (q : ∀ t,Q (.int vs.length t) h) : T prog w A (PySem.call (.builtin "len") [.ref a]) h Q:=fun s es=>by
 subst es
 refine call_len_list hl (by simp only [List.size_toArray]; omega) ⟨_,_, ?_⟩
 simp only [List.size_toArray]
 exact q _
theorem t_Assign2 {t₁ t₂ value : PySem.Expr} {pos : Pos} {Q : Flow → Heap → Prop} (t : T prog w A (eval value env) h fun v h₁=>T prog w A (assign t₁ env v) h₁ fun zz h₂=>T prog w A (assign t₂ env v) h₂ fun zz=>Q .next)
  (he : (assignEach [t₁,t₂] env).map (·.2) = [assign t₁ env,assign t₂ env]:=by rfl) (hw : swappedStores [t₁,t₂] value env = Pure.pure none:=by rfl) : T prog w A (exec (.Assign [t₁,t₂] value pos) env) h Q:=fun s es =>
 wpAny_Assign_two (T.el t es (by
  rintro v h₁ t₁ y
  refine T.nx y (by
   rintro _ h₂ t₂ z
   exact (T.nx z fun zz => .mk)))) he hw
theorem t_assignAttr {o : PySem.Expr} {attr : Str} {pos : Pos} {v : Value} {Q : Unit → Heap → Prop} (t : T prog w A (eval o env) h fun ov h₁=>T prog w A (PySem.setAttr ov attr v) h₁ Q) : T prog w A (assign (.Attribute o attr pos) env v) h Q:=fun s es=>by
 rw [assign_Attribute]
 refine wpAny_bind (wpAny_holding (T.el t es (by
  rintro ov h₁ t₁ y
  refine wpAny_bind (wpAny_standAt (wpAny_bind (wpAny_holding (T.nx y (by
   rintro _ h₂ t₂ z
   exact wpAny_release ⟨h₂,t₂,z⟩))))))))
theorem t_Assign_Attr {o value : PySem.Expr} {attr : Str} {pa pos : Pos} {Q : Flow → Heap → Prop} (t : T prog w A (eval value env) h fun v h₁=>T prog w A (eval o env) h₁ fun ov h₂=>T prog w A (PySem.setAttr ov attr v) h₂ fun zz=>Q .next)
  (hs : swapsWith value (some (.Attribute o attr pa)) pos.line env = Pure.pure false:=by rfl) : T prog w A (exec (.Assign [.Attribute o attr pa] value pos) env) h Q:=fun s es =>
 plainObj_wpAny_Assign_Attribute (T.el t es (by
  rintro v h₁ t₁ y
  refine T.nx y (by
   rintro _ h₂ t₂ z
   exact (T.nx z fun zz => .mk)))) hs
end
end Mine
end
section
namespace Mine
noncomputable abbrev aSM : Addr:=at_SequenceMatcher
theorem plainSM (P : Params) : Plain (frag P) aSM:=⟨by kernel_rfl!,by kernel_rfl!,by kernel_rfl!,by kernel_rfl!,by kernel_rfl!⟩
noncomputable def attrN : List Str:=[ofString "isjunk",ofString "a",ofString "b",ofString "autojunk",ofString "matching_blocks",ofString "opcodes",ofString "fullbcount",ofString "b2j",ofString "bjunk",ofString "bpopular"]
theorem attr_none (P : Params) : (attrN.all fun x=>findIn (frag P) (.ref aSM) x == some none) = true:=by kernel_rfl!
theorem attr_take (P : Params) : (attrN.all fun x=>takerIn (frag P) aSM x == some none) = true:=by kernel_rfl!
theorem attrFind (P : Params) {x : Str} (hx : x ∈ attrN) : findIn (frag P) (.ref aSM) x = some none:=beq_iff_eq.mp (List.all_eq_true.mp (attr_none P) x hx)
theorem attrTake (P : Params) {x : Str} (hx : x ∈ attrN) : takerIn (frag P) aSM x = some none:=beq_iff_eq.mp (List.all_eq_true.mp (attr_take P) x hx)
theorem fn_chain_b (P : Params) : FnOk (frag P) at_SequenceMatcher_chain_b fdOf_SequenceMatcher_chain_b (bodyN (stN (bodyN (stN pwBody 5)) 5)) :=
 ⟨⟨obOf_SequenceMatcher_chain_b P,by kernel_rfl!,rfl⟩,by kernel_rfl!,by kernel_rfl!,by kernel_rfl!,by kernel_rfl!,by kernel_rfl!,by kernel_rfl!,by kernel_rfl!,by kernel_rfl!⟩
end Mine
end
section
namespace Mine
section
variable {prog : Program} {w : World} {A : Around} {h h' h₀ : Heap} {env : Env} {D : List Addr} {L : Addr} {m m' : Str → Option Value} {l l' : List (Addr × Obj)} {K : Frag}
theorem bindsK {K : Frag} {h : Heap} {fd : FuncData} {args : Args} {binds : List (Str × Value)} {T : Addr} {o : Obj} {items : Array Value} {n : Nat} {k : Option (Array Value) → Sem (List (Str × Value))} (X : K.In h) (hd : fd.defaults = .ref T) (ho : K.lookup T = some o) (hs : o.data = .seq items n)
  (h₁ : bindArgs fd args = seqItems? fd.defaults >>= k) (h₂ : k (some items) = pure binds) : ∀ s : Shared,s.heap = h → BindsTo s fd args binds:=fun s e=>BindsTo.of_defaults hd (e ▸ X _ _ ho) hs h₁ h₂
end
end Mine
end
section
namespace Mine
section
variable {prog : Program} {w : World} {A : Around} {h h' h₀ : Heap} {env : Env} {D : List Addr} {L : Addr} {m m' : Str → Option Value} {l l' : List (Addr × Obj)} {K : Frag}
end
end Mine
end
section
namespace Mine
section
variable {prog : Program} {w : World} {A : Around} {h h' h₀ : Heap} {env : Env} {D : List Addr} {L : Addr} {m m' : Str → Option Value} {l l' : List (Addr × Obj)} {K : Frag}
theorem IsTupO.isTuple {a : Addr} {o : Obj} {vs : List Value} (ho : h.get? a = some o) (x : IsTupO o vs) : h.IsTuple a vs.toArray:=let ⟨n,e⟩:=x; ⟨o,ho,by rw [e],n,by rw [e]⟩
end
end Mine
end
section
namespace Mine
section
variable {prog : Program} {w : World} {A : Around} {h h' h₀ : Heap} {env : Env} {D : List Addr} {L : Addr} {m m' : Str → Option Value} {l l' : List (Addr × Obj)} {K : Frag}
end
end Mine
end
section
namespace Mine
theorem slot_dkeys_iter : Slot "dict_keys" "__iter__" "dict_keys.__iter__" :=
 .of (owner := "dict_keys") (n := "__iter__") (by rw [PySem.typeLookup_type,PySem.builtinLookup_eq_fast]; kernel_rfl!) (by decide +kernel) (by decide +kernel) (by decide +kernel)
  (by first | exact .inl (by decide +kernel) | exact .inr (by decide +kernel)) (by rw [PySem.isSubtype_type]; kernel_rfl!)
theorem entry_dkeys_iter : entryFor table "dict_keys.__iter__" = some Builtin.«dict_keys.__iter__» := PySem.entryFor_of_tree (by kernel_rfl!)
theorem args_dkeys_iter (a : Value) : argsOk "dict_keys.__iter__" ⟨[a],[]⟩:=by unfold argsOk; kernel_rfl!
section
variable {prog : Program} {w : World} {A : Around} {h h' h₀ : Heap} {env : Env} {D : List Addr} {L : Addr} {m m' : Str → Option Value} {l l' : List (Addr × Obj)}
variable {K : Type} [DecidableEq K] {knd : KeyKind prog w K}
noncomputable abbrev IsDicK (knd : KeyKind prog w K) (o : Obj) (kvs : List (K × Value)) : Prop:=o.IsDictOf knd kvs
theorem dicOfK {d : Addr} {o : Obj} {kvs : List (K × Value)} (ho : h.get? d = some o) (hd : IsDicK knd o kvs) : h.DictOf knd d kvs:=Heap.dictOf_iff.mpr ⟨o,ho,hd⟩
theorem IsDicK.cls {o : Obj} {kvs : List (K × Value)} (hd : IsDicK knd o kvs) : o.cls = .type "dict" ∧ o.dict = none:=by
 obtain ⟨es,ep,hc,_⟩:=hd
 exact ⟨hc.1,hc.2.1⟩
theorem t_getK {d : Addr} {o : Obj} {kvs : List (K × Value)} {k : K} {key dflt : Value} {Q : Value → Heap → Prop} (hk : knd.is k key = true) (ho : h.get? d = some o) (hd : IsDicK knd o kvs) (lo : (d == sysModules) = false) (q : Q ((valueAt kvs k).getD dflt) h) :
  T prog w A (PySem.call (.builtin "dict.get") [.ref d,key,dflt]) h Q:=fun s es=>by
 subst es
 have hD:=dicOfK (knd:=knd) ho hd
 exact call_meetsIn PySem.F.slot_dict_get hD.typeIs PySem.F.entry_dict_get (PySem.F.args_dict_get_3 _ _ _) (meets_dict_get_default knd d hk lo dflt) ⟨_,hD.mapOf,⟨_,_,q⟩⟩
theorem t_delK {d : Addr} {o : Obj} {kvs : List (K × Value)} {k : K} {key : Value} {Q : Unit → Heap → Prop} (hk : knd.is k key = true) (ho : h.get? d = some o) (hd : IsDicK knd o kvs) (hsz : kvs.length ≤ sizeLine) (hv : (valueAt kvs k).isSome = true)
  (q : ∀ h' o',Sub [d] h h' → h'.get? d = some o' → IsDicK knd o' (without kvs k) → Q () h') : T prog w A (delItem (.ref d) key) h Q:=fun s es=>by
 subst es
 have hD:=dicOfK (knd:=knd) ho hd
 unfold delItem
 try with_reducible refine wpAny_holding ?_
 refine wpAny_bind (wpAny_sequenceKey hD.typeIs (by decide) ?_)
 refine wpAny_bind (wpAny_callSpecial?_slot (name:=ofString "__delitem__") hD.typeIs PySem.F.slot_dict_delitem
  (call_meetsIn PySem.F.slot_dict_delitem hD.typeIs PySem.F.entry_dict_delitem (PySem.F.args_dict_delitem_2 _ _) (meets_dict_delitem_pairs knd d hk) ⟨kvs,hD,hsz,hv,fun h' hmm hs => ?_⟩))
 obtain ⟨o',ho',hd'⟩:=Heap.dictOf_iff.mp hmm
 exact wpAny_pure ⟨h',_,q h' o' (Sub.same hs) ho' hd'⟩
theorem t_Delete {o i : PySem.Expr} {p pos : Pos} {Q : Flow → Heap → Prop} (t : T prog w A (eval o env) h fun ov h₁=>T prog w A (eval i env) h₁ fun iv h₂=>T prog w A (delItem ov iv) h₂ fun zz=>Q .next) : T prog w A (exec (.Delete [.Subscript o i p] pos) env) h Q:=fun s es=>by
 refine wpAny_Delete (wpAny_deleteEach_cons (delete_Subscript (wpAny_mono (t s es) ?_ fun zz zz z=>z)))
 rintro ov s₁ ⟨h₁,t₁,z⟩
 refine wpAny_mono (z _ rfl) ?_ fun zz zz z=>z
 rintro iv s₂ ⟨h₂,t₂,z⟩
 refine wpAny_mono (z _ rfl) ?_ fun zz zz z=>z
 rintro _ s₃ ⟨h₃,t₃,z⟩
 exact wpAny_deleteEach_nil ⟨h₃,t₃,z⟩
theorem wp_setdefaultK {s : Shared} {E : Value → Shared → Prop} {d : Addr} {kvs : List (K × Value)} {k : K} {key dflt : Value} {Q : Value → Shared → Prop} (hkey : knd.is k key = true) (hm : s.heap.DictOf knd d kvs)
  (hthere : ∀ v,valueAt kvs k = some v → Q v { s with toks:=s.toks + 1 })
  (hnew : valueAt kvs k = none → ∀ h',h'.DictOf knd d (kvs ++ [(k,dflt)]) → Heap.SameBut d s.heap h' → Q dflt { s with heap:=h',toks:=s.toks + 1 })
  (hsz : kvs.length ≤ sizeLine) : wpAny (model prog w) A (dictSetDefault d key dflt) Q E s:=by
 obtain ⟨o,es,ep,ho,hc,hd,hk,hp,hn⟩:=hm
 have hes : es.size ≤ sizeLine:=by
  have e1:=hp.length
  have e2 : es.toList.length = es.size:=by simp
  omega
 unfold dictSetDefault
 try with_reducible refine wpAny_holding ?_
 refine wpAny_bind (knd.pyHash hkey ?_)
 refine wpAny_bind (wpAny_dictFind_of (s:={ s with toks:=s.toks + 1 }) hkey ho hd hk ?_)
 have hidx : (es.findIdx? fun e=>knd.is k e.key) = kvs.findIdx? fun kv=>decide (kv.1 = k):=by
  rw [← hp.findIdx k]; obtain ⟨l⟩:=es; simp
 have hfind:=hp.find k
 cases hi : es.findIdx? fun e=>knd.is k e.key with
 | some i =>
  refine wpAny_bind (wpAny_dictEntries (s:={ s with toks:=s.toks + 1 }) ho hd ?_)
  obtain ⟨hlt,hp1,hp2⟩:=Array.findIdx?_eq_some_iff_getElem.mp hi
  rw [Array.getElem?_eq_getElem hlt]
  refine wpAny_bind (wpAny_rule (wpAny_pure (hthere _ ?_)))
  rw [← hfind]
  have : es.toList.find? (fun e=>knd.is k e.key) = some es[i]:=by
   rw [List.find?_eq_some_iff_getElem]
   exact ⟨hp1,i,by simpa using hlt,by simp,fun j hj=>by
    have:=hp2 j hj
    simpa using this⟩
  rw [this]; rfl
 | none =>
  have hnot : k ∉ kvs.map (·.1):=not_mem_of_findIdx_none (hidx ▸ hi)
  have hnone : valueAt kvs k = none:=by
   unfold valueAt
   rw [List.find?_eq_none.mpr fun kv hkv he=>hnot (List.mem_map.mpr ⟨kv,hkv,of_decide_eq_true he⟩)]; rfl
  refine wpAny_bind (wpAny_rule (wpAny_bind (wpAny_updateDictKeys (hz:=hes) (s:={ s with toks:=s.toks + 1 }) ho hd (wpAny_pure (hnew hnone _ ⟨_,_,ep + 1,Heap.get?_update_self _ ho (Obj.isFreed_of_dict (Obj.data_mapDictKeys hd _)),
   hc.mapDictKeys _,Obj.data_mapDictKeys hd _,hk.push hkey _, ?_, ?_⟩ (Heap.SameBut.update ..))))))
  ·have:=hp.append hkey (knd.hash k) dflt
   obtain ⟨l⟩:=es
   simpa using this
  ·rw [List.map_append,List.nodup_append]
   refine ⟨hn,by simp, ?_⟩
   intro a ha b hb
   simp only [List.map_cons,List.map_nil,List.mem_singleton] at hb
   subst hb
   exact fun e=>hnot (e ▸ ha)
theorem t_setdefaultK {d : Addr} {o : Obj} {kvs : List (K × Value)} {k : K} {key dflt : Value} {Q : Value → Heap → Prop} (hkey : knd.is k key = true) (hsc : (keyPart key).isSome = true) (ho : h.get? d = some o) (hd : IsDicK knd o kvs) (lo : (d == sysModules) = false) (hsz : kvs.length ≤ sizeLine)
  (q1 : ∀ v,valueAt kvs k = some v → Q v h) (q2 : valueAt kvs k = none → ∀ h' o',Sub [d] h h' → h'.get? d = some o' → IsDicK knd o' (kvs ++ [(k,dflt)]) → Q dflt h') :
  T prog w A (PySem.call (.builtin "dict.setdefault") [.ref d,key,dflt]) h Q:=fun s es=>by
 subst es
 have hD:=dicOfK (knd:=knd) ho hd
 refine wpAny_call_entry PySem.F.slot_dict_setdefault hD.typeIs PySem.F.entry_dict_setdefault ?_ (PySem.F.args_dict_setdefault_3 _ _ _)
 unfold Builtin.«dict.setdefault»
 refine wpAny_bind ?_
 unfold Builtin.Dict.keyAndDefault
 refine wpAny_bind (wpAny_notOrdered_dict hD.typeIs ?_)
 show wpAny _ _ (Pure.pure (d,key,some dflt)) _ _ s
 refine wpAny_pure ?_
 show wpAny _ _ (if (d == sysModules) = true then _ else (dictSetDefault d key dflt >>= _)) _ _ s
 rw [if_neg (by rw [lo]; exact Bool.false_ne_true)]
 refine wpAny_bind (wp_setdefaultK (hsz:=hsz) hkey hD (fun v hv=>wpAny_pure ⟨v,rfl,_,_,q1 v hv⟩) fun hn h' hm hs=>wpAny_pure ⟨dflt,rfl, ?_⟩)
 obtain ⟨o',ho',hd'⟩:=Heap.dictOf_iff.mp hm
 exact ⟨_,_,q2 hn h' o' (Sub.same hs) ho' hd'⟩
noncomputable def IsKeysV (o : Obj) (d : Addr) : Prop:=o.cls = .type "dict_keys" ∧ o.data = .fields #[.ref d]
theorem t_keysV {d : Addr} {o : Obj} {kvs : List (K × Value)} {Q : Value → Heap → Prop} (ho : h.get? d = some o) (hd : IsDicK knd o kvs) (lo : (d == sysModules) = false)
  (q : ∀ a h' o',Sub [] h h' → h.get? a = none → h'.get? a = some o' → IsKeysV o' d → Q (.ref a) h') : T prog w A (PySem.call (.builtin "dict.keys") [.ref d]) h Q:=fun s es=>by
 subst es
 have hm:=dicOfK (knd:=knd) ho hd
 refine wpAny_call_entry PySem.F.slot_dict_keys hm.typeIs PySem.F.entry_dict_keys ?_ (PySem.F.args_dict_keys_1 _)
 unfold Builtin.«dict.keys»
 show wpAny _ _ (Builtin.Dict.noArgs "keys" ⟨[.ref d],[]⟩ >>= _) _ _ s
 refine wpAny_bind ?_
 unfold Builtin.Dict.noArgs
 refine wpAny_bind (wpAny_notOrdered_dict hm.typeIs ?_)
 show wpAny _ _ (pure d) _ _ s
 refine wpAny_pure ?_
 show wpAny _ _ (Builtin.Dict.showsAll d >>= _) _ _ s
 unfold Builtin.Dict.showsAll
 rw [if_neg (by rw [lo]; exact Bool.false_ne_true)]
 refine wpAny_bind (wpAny_pure ?_)
 exact wpAny_bind (wpAny_newObj_type (wpAny_pure ⟨_,rfl,_,_,q _ _ _ (Sub.push _ _) (get_size_none _) (get_push_self _ _) ⟨rfl,rfl⟩⟩))
noncomputable def kitS (d : Addr) (n ep : Nat) (i : Nat) (o : Obj) : Prop:=o.cls = .type "dict_keyiterator" ∧ o.data = .fields #[.ref d,.int i 0,.int n 0,.int ep 0]
theorem t_iterKeysV {v d : Addr} {ov o : Obj} {kvs : List (K × Value)} {ep : Nat} {Q : Value → Heap → Prop} (hv : h.get? v = some ov) (iv : IsKeysV ov d) (hm : h.DictAt knd d kvs ep)
  (q : ∀ I h' o',Sub [] h h' → h.get? I = none → h'.get? I = some o' → kitS d kvs.length ep 0 o' → Q (.ref I) h') : T prog w A (pyIter (.ref v)) h Q:=fun s es=>by
 subst es
 obtain ⟨od,es,ho,hc,hdat,hk,hp,hn⟩:=id hm
 have hT : s.TypeIs (.ref v) "dict_keys" := ⟨ov,hv,iv.1⟩
 have hsz : es.size = kvs.length:=by rw [← hp.length]; simp
 refine wpAny_pyIter_slot hT slot_dkeys_iter (wpAny_call_entry slot_dkeys_iter hT entry_dkeys_iter ?_ (args_dkeys_iter _))
 unfold Builtin.«dict_keys.__iter__»
 refine wpAny_bind (wpAny_pure ?_)
 refine wpAny_bind ?_
 unfold Builtin.Dict_items.dictOf
 refine wpAny_bind (wpAny_field hv iv.2 (x := .ref d) rfl (wpAny_pure ?_))
 refine wpAny_bind ?_
 unfold Builtin.Dict_items.newIterator
 refine wpAny_bind (wpAny_dictEntries ho hdat ?_)
 refine wpAny_bind (wpAny_dictEpoch ho hdat ?_)
 have hown : Builtin.Dict_items.ownsTuple "dict_keyiterator" = false:=by decide
 simp only [hown,Bool.false_eq_true,if_false]
 refine wpAny_newObj_type (wpAny_pure ⟨_,rfl, "dict_keyiterator",_,⟨_,Heap.get?_push_size _ rfl,rfl⟩,PySem.F.slot_dict_keyiterator_next.lookup, ?_⟩)
  (by simp only [sizeOk,List.size_toArray,List.length_cons,List.length_nil,sizeLine_eq]; omega)
 refine ⟨_,s.toks,q _ _ _ (Sub.push _ _) (get_size_none _) (get_push_self _ _) ⟨rfl, ?_⟩⟩
 simp [rawInt,hsz]
theorem t_nextKey {I d : Addr} {o : Obj} {i ep : Nat} {kvs : List (K × Value)} {k : K} {v : Value} {Q : Option Value → Heap → Prop} (ho : h.get? I = some o) (st : kitS d kvs.length ep i o) (hm : h.DictAt knd d kvs ep) (hx : kvs[i]? = some (k,v))
  (q : ∀ key h' o',knd.is k key = true → Sub [I] h h' → h'.get? I = some o' → kitS d kvs.length ep (i + 1) o' → Q (some key) h') : T prog w A (pyNext (.ref I)) h Q:=fun s es=>by
 subst es
 refine wpAny_pyNext_dict_item ⟨o,ho,st.1,st.2⟩ hm hx fun key h' hk hit hs => ?_
 obtain ⟨o',g',c',d'⟩:=hit
 exact ⟨h',s.toks,q key h' o' hk (Sub.same hs) g' ⟨c',d'⟩⟩
theorem t_nextKeyEnd {I d : Addr} {o : Obj} {ep : Nat} {kvs : List (K × Value)} {Q : Option Value → Heap → Prop} (hh : A.handled = none) (ho : h.get? I = some o) (st : kitS d kvs.length ep kvs.length o) (hm : h.DictAt knd d kvs ep)
  (q : ∀ h',Sub [I] h h' → Q none h') : T prog w A (pyNext (.ref I)) h Q:=fun s es=>by
 subst es
 exact wpAny_pyNext_dict_end hh ⟨o,ho,st.1,st.2⟩ hm (by walk_at "ms") fun h' he=>⟨h',s.toks,q h' (Sub.ext he)⟩
end
end Mine
end
section
namespace Mine
noncomputable def Srtd (xs : Array Nat) : Prop:=xs.toList.Pairwise (· < ·)
theorem below_go {xs : Array Nat} {j i : Nat} (h1 : ∀ a x,a < i → xs[a]? = some x → x < j) (h2 : ∀ a x,i ≤ a → xs[a]? = some x → j ≤ x) : ∀ fuel lo hi,lo ≤ i → i ≤ hi → hi ≤ xs.size → hi ≤ fuel + lo → SetTable.below.go xs j fuel lo hi = i:=by
 intro fuel
 induction fuel with
 | zero =>
  intro lo hi a b c d
  rw [SetTable.below.go]; omega
 | succ fuel ih =>
  intro lo hi a b c d
  rw [SetTable.below.go]
  by_cases hlt : lo < hi
  ·rw [if_pos hlt]
   have hm : (lo + hi) / 2 < xs.size:=by omega
   have hx : xs[(lo + hi) / 2]? = some xs[(lo + hi) / 2]:=by simp [hm]
   have hg : xs.getD ((lo + hi) / 2) j = xs[(lo + hi) / 2]:=by simp [hm]
   simp only [hg]
   by_cases hq : xs[(lo + hi) / 2] < j
   ·rw [if_pos hq]
    have : (lo + hi) / 2 < i:=by
     rcases Nat.lt_or_ge ((lo + hi) / 2) i with y | y
     ·exact y
     ·exact absurd (h2 _ _ y hx) (Nat.not_le.mpr hq)
    exact ih _ _ (by omega) b c (by omega)
   ·rw [if_neg hq]
    have : i ≤ (lo + hi) / 2:=by
     rcases Nat.lt_or_ge ((lo + hi) / 2) i with y | y
     ·exact absurd (h1 _ _ y hx) hq
     ·exact y
    exact ih _ _ a this (by omega) (by omega)
  ·rw [if_neg hlt]; omega
theorem below_eq {xs : Array Nat} {j i : Nat} (h1 : ∀ a x,a < i → xs[a]? = some x → x < j) (h2 : ∀ a x,i ≤ a → xs[a]? = some x → j ≤ x) (hi : i ≤ xs.size) : SetTable.below xs j = i :=
 below_go h1 h2 _ _ _ (Nat.zero_le _) hi (Nat.le_refl _) (by omega)
theorem split_list (j : Nat) : ∀ {xs : List Nat},xs.Pairwise (· < ·) → ∃ i,i ≤ xs.length ∧ (∀ a x,a < i → xs[a]? = some x → x < j) ∧ (∀ a x,i ≤ a → xs[a]? = some x → j ≤ x)
 | [],_=>⟨0,Nat.le_refl _,fun a x h=>by omega,fun a x zz e=>by simp at e⟩
 | y :: ys,p=>by
  rw [List.pairwise_cons] at p
  by_cases hy : y < j
  ·obtain ⟨i,k0,k1,k2⟩:=split_list j p.2
   refine ⟨i + 1,by simp; omega,fun a x ha e => ?_,fun a x ha e => ?_⟩
   ·cases a with
    | zero=>simp at e; omega
    | succ a=>exact k1 a x (by omega) (by simpa using e)
   ·cases a with
    | zero=>omega
    | succ a=>exact k2 a x (by omega) (by simpa using e)
  ·refine ⟨0,Nat.zero_le _,fun a x h=>by omega,fun a x zz e => ?_⟩
   cases a with
   | zero=>simp at e; omega
   | succ a =>
    have:=p.1 x (List.mem_of_getElem? (by simpa using e))
    omega
theorem split_at {xs : Array Nat} (s : Srtd xs) (j : Nat) : ∃ i,i ≤ xs.size ∧ (∀ a x,a < i → xs[a]? = some x → x < j) ∧ (∀ a x,i ≤ a → xs[a]? = some x → j ≤ x):=by
 obtain ⟨i,h0,h1,h2⟩:=split_list j s
 exact ⟨i,by simpa using h0,fun a x ha e=>h1 a x ha (by simpa using e),fun a x ha e=>h2 a x ha (by simpa using e)⟩
theorem srtd_range (n : Nat) : Srtd (Array.range n):=by
 unfold Srtd
 rw [Array.toList_range]
 exact List.pairwise_lt_range
structure WfT (led : Bool) (t : SetTable) : Prop where
 s : Srtd t.place
 d : t.dummies = #[]
 l : t.led = led
theorem WfT.standIn {led : Bool} {t : SetTable} (x : WfT led t) (n : Nat) : WfT led (t.standIn n):=⟨srtd_range n,rfl,x.l⟩
theorem WfT.orStandIn {led : Bool} {t : SetTable} (x : WfT led t) (n : Nat) : WfT led (t.orStandIn n):=by
 unfold SetTable.orStandIn
 split
 ·exact x
 ·exact x.standIn n
theorem slot_empty {t : SetTable} {j : Nat} (hs : t.slot j = .empty) : t.place[SetTable.below t.place j]? ≠ some j:=fun e=>by
 unfold SetTable.slot at hs
 simp only [e,BEq.rfl,if_true] at hs
 cases hs
theorem WfT.put {led : Bool} {t : SetTable} (x : WfT led t) {j : Nat} (hs : t.slot j = .empty) : WfT led (t.put j).1:=by
 obtain ⟨i,h0,h1,h2⟩:=split_at x.s j
 have hb:=below_eq h1 h2 h0
 have hne:=slot_empty hs
 rw [hb] at hne
 refine ⟨?_, ?_,x.l⟩
 ·show Srtd (SetTable.insertAt t.place (SetTable.below t.place j) j)
  rw [hb,Srtd,SetTable.toList_insertAt]
  have p : (t.place.toList.take i ++ t.place.toList.drop i).Pairwise (· < ·):=by rw [List.take_append_drop]; exact x.s
  rw [List.pairwise_append] at p
  obtain ⟨p1,p2,p3⟩:=p
  rw [List.pairwise_append,List.pairwise_cons]
  refine ⟨p1,⟨fun y hy => ?_,p2⟩,fun y hy z hz => ?_⟩
  ·obtain ⟨k,hk⟩:=List.mem_iff_getElem?.mp hy
   rw [List.getElem?_drop] at hk
   have hk' : t.place[i + k]? = some y:=by simpa using hk
   have hy:=h2 (i + k) y (by omega) hk'
   rcases Nat.lt_or_eq_of_le hy with q | q
   ·exact q
   ·exfalso
    have hi : i < t.place.size:=by
     rcases Nat.lt_or_ge (i + k) t.place.size with z | z
     ·omega
     ·rw [Array.getElem?_eq_none z] at hk'; cases hk'
    have e1 : t.place[i]? = some t.place[i]:=by simp [hi]
    have g1:=h2 i _ (Nat.le_refl _) e1
    have g2 : t.place[i] ≠ j:=fun z=>hne (by rw [e1,z])
    cases k with
    | zero=>rw [Nat.add_zero,e1] at hk'; cases hk'; exact g2 q.symm
    | succ k =>
     have hik : i + (k + 1) < t.place.size:=by
      rcases Nat.lt_or_ge (i + (k + 1)) t.place.size with z | z
      ·exact z
      ·rw [Array.getElem?_eq_none z] at hk'; cases hk'
     have:=List.pairwise_iff_getElem.mp x.s i (i + (k + 1)) (by simpa using hi) (by simpa using hik) (by omega)
     simp only [Array.getElem_toList] at this
     have e2 : t.place[i + (k + 1)]? = some t.place[i + (k + 1)]:=by simp [hik]
     rw [e2] at hk'; cases hk'
     omega
  ·obtain ⟨k,hk⟩:=List.mem_iff_getElem?.mp hy
   have hki : k < i:=by
    rcases Nat.lt_or_ge k i with q | q
    ·exact q
    ·rw [List.getElem?_eq_none (by simp; omega)] at hk; cases hk
   rw [List.getElem?_take_of_lt hki] at hk
   have hyj:=h1 k y hki (by simpa using hk)
   rcases List.mem_cons.mp hz with rfl | hz
   ·exact hyj
   ·exact p3 y hy z hz
 ·show (if SetTable.has t.dummies j then _ else t.dummies) = _
  rw [x.d]
  simp [SetTable.has]
set_option tactic.hygienic true in
theorem probe_go {t : SetTable} {f : Nat → Int} {h : Int} (hd : t.dummies = #[]) : ∀ (fuel : Nat) (p : SetTable.Probe) {j : Nat} {dm : Option Nat},p.dummy = none → SetTable.probe.go t f h fuel p = some (.empty j dm) → dm = none ∧ t.slot j = .empty:=by
 intro fuel
 induction fuel with
 | zero=>intro p j dm _ e; rw [SetTable.probe.go] at e; cases e
 | succ fuel ih =>
  intro p j dm hp e
  have adv : (t.advance p).dummy = none:=by
   unfold SetTable.advance
   split
   ·exact hp
   ·exact hp
  rw [SetTable.probe.go] at e
  split at e
  ·rename_i hs
   cases e
   exact ⟨hp,hs⟩
  ·rename_i hs
   exfalso
   unfold SetTable.slot at hs
   rw [hd] at hs
   simp [SetTable.has] at hs
   split at hs <;> cases hs
  ·split at e
   ·cases e
   ·exact ih _ adv e
set_option tactic.hygienic true in
theorem free_empty {t : SetTable} {h : Int} (hd : t.dummies = #[]) {slot : Nat} {wd : Bool} (e : t.freeSlot h = some (slot,wd)) : t.slot slot = .empty ∧ wd = false:=by
 unfold SetTable.freeSlot at e
 split at e
 ·rename_i j dm hp
  obtain ⟨rfl,q⟩:=probe_go hd _ _ rfl hp
  cases e
  exact ⟨q,rfl⟩
 ·cases e
set_option tactic.hygienic true in
theorem WfT.layNew {led : Bool} {t : SetTable} (x : WfT led t) (es : Array (Int × Value)) (h : Int) (v : Value) : WfT led (layNew t es h v).2.1:=by
 unfold PySem.layNew
 split
 ·rename_i slot wd e
  exact (x.put (free_empty x.d e).1).orStandIn _
 ·exact x.standIn _
theorem sub_fst {α : Type} {f : Nat → Option (Nat × α)} (hf : ∀ j y,f j = some y → y.1 = j) : ∀ l : List Nat,((l.filterMap f).map (·.1)).Sublist l
 | []=>by simp
 | j :: l=>by
  rw [List.filterMap_cons]
  cases e : f j with
  | none=>exact (sub_fst hf l).cons _
  | some y=>rw [List.map_cons,hf j y e]; exact (sub_fst hf l).cons_cons _
set_option tactic.hygienic true in
theorem WfT.relayAll {led : Bool} {t : SetTable} (x : WfT led t) (es : Array (Int × Value)) (n : Nat) : WfT led (relayAll t es n).2.1:=by
 unfold PySem.relayAll
 split
 ·rename_i t' order e
  dsimp only
  split
  ·unfold SetTable.relaid SetTable.laid at e
   cases ho : SetTable.layClean (SetTable.sizeAbove n - 1) (es.map (·.1)) with
   | none=>rw [ho] at e; cases e
   | some owner =>
    rw [ho] at e
    cases e
    refine ⟨?_,rfl,x.l⟩
    show List.Pairwise _ (List.toArray _).toList
    rw [List.toList_toArray]
    refine List.Pairwise.sublist (sub_fst (fun j y hy => ?_) _) List.pairwise_lt_range
    obtain ⟨z,_,rfl⟩:=Option.map_eq_some_iff.mp hy
    rfl
  ·exact x.standIn _
 ·exact x.standIn _
theorem WfT.plain {led : Bool} {t : SetTable} (x : WfT led t) : WfT led { t with plain:=false }:=⟨x.s,x.d,x.l⟩
end Mine
end
section
namespace Mine
section
variable {prog : Program} {w : World} {A : Around} {E : Value → Shared → Prop} {s : Shared}
noncomputable def ledOf (w : World) : Bool := !w.params.followText "set-order"
theorem code_setL {Q₁ : Value → Shared → Prop} (h : Q₁ (.ref s.heap.objs.size) { s with heap:=s.heap.push { cls := .type "set",dict:=none,data := .set #[] 0 (.fresh 0 0 (ledOf w)) } }) :
  codeAny (model prog w) A (.call (.builtin "set.__new__") ⟨[.type "set"],[]⟩) (wants Q₁ E) s:=by
 refine codeAny_of_tree ?_
 show wpAny _ A.in1 (do checkBuiltinCall "set.__new__" ⟨[.type "set"],[]⟩; again (.builtin "set.__new__" ⟨[.type "set"],[]⟩)) _ _ s
 refine wpAny_bind (wpAny_of_eq PySem.F.newCall_set_0 (wpAny_pure ⟨plainId_quiet PySem.F.plain_set_new _,codeAny_builtin PySem.F.entry_set_new ?_⟩))
 rw [Around.under_plainId PySem.F.plain_set_new _]
 unfold Builtin.«set.__new__» Builtin.Frozenset.newClass
 have hsub:=sub_set_self
 obtain ⟨hp,g,d,tk,os⟩:=s
 dsimp only
 wp_walk
 refine wpAny_askSetting (wpAny_pure ?_)
 dsimp only
 simp only [newObj]
 refine wpAny_bind (wpAny_alloc (wpAny_pure ?_))
 exact wpAny_pure h
theorem call_setL {Q : Value → Shared → Prop} (h : Q (.ref s.heap.objs.size) { s with heap:=s.heap.push { cls := .type "set",dict:=none,data := .set #[] 0 (.fresh 0 0 (ledOf w)) } }) :
  wpAny (model prog w) A (call (.type "set") []) Q E s:=by
 obtain ⟨c,tl,hmro⟩:=PySem.F.called_set.mro
 have hmade:=PySem.F.called_set.made
 have hsub:=PySem.F.called_set.sub
 refine wpAny_call (codeAny_of_tree ?_)
 show wpAny _ _ (callAny (.type "set") _) _ _ _
 refine wpAny_pure ⟨Code.quiet_builtin _ (by decide +kernel),codeAny_builtin PySem.F.entry_type_call ?_⟩
 rw [Around.under_plain (weight_type_call_type "set" [] []) rfl]
 have h1:=PySem.F.called_set.notType
 have h2:=PySem.F.called_set.canCreate
 have hct:=PySem.F.typeCall_set_0
 repeat (any_goals (first | assumption | wp_step))
 refine codeAny_mono (code_setL (E:=E) (Q₁:=fun obj s₁=>obj = .ref s.heap.objs.size ∧ s₁ = { s with heap:=s.heap.push { cls := .type "set",dict:=none,data := .set #[] 0 (.fresh 0 0 (ledOf w)) } }) ⟨rfl,rfl⟩) fun r s₁ hr => ?_
 cases r with
 | error e=>exact hr
 | ok fl =>
  cases fl with
  | ret obj =>
   obtain ⟨rfl,rfl⟩:=hr
   have hS : (s.heap.push { cls := .type "set",dict:=none,data := .set #[] 0 (.fresh 0 0 (ledOf w)) }).get? s.heap.objs.size = some { cls := .type "set",dict:=none,data := .set #[] 0 (.fresh 0 0 (ledOf w)) }:=Heap.get?_push_size _ rfl
   have hT : Shared.TypeIs { s with heap:=s.heap.push { cls := .type "set",dict:=none,data := .set #[] 0 (.fresh 0 0 (ledOf w)) } } (.ref s.heap.objs.size) "set" := ⟨_,hS,rfl⟩
   have hli:=PySem.F.called_set.init.lookup
   have hbi:=PySem.F.called_set.init.bind (.ref s.heap.objs.size)
   repeat (any_goals (first | assumption | wp_step))
   refine codeAny_mono (codeAny_call_builtin (R:=wants (fun r s₂=>r = .none ∧ Q (.ref s.heap.objs.size) s₂) E) PySem.F.called_set.init.plain PySem.F.entry_set_init (check_set_init hT ?_)) fun r₂ s₂ hr₂ => ?_
   ·unfold Builtin.«set.__init__» noKeywords
    wp_walk
    exact ⟨rfl,h⟩
   ·cases r₂ with
    | error e=>exact hr₂
    | ok fl₂ =>
     cases fl₂ with
     | ret r =>
      obtain ⟨rfl,hq⟩:=hr₂
      repeat (any_goals (first | assumption | wp_step))
     | _=>exact hr₂.elim
  | _=>exact hr.elim
end
section
variable {prog : Program} {w : World} {A : Around} {h h' h₀ : Heap} {env : Env} {D : List Addr} {L : Addr} {m m' : Str → Option Value} {l l' : List (Addr × Obj)}
variable {K : Type} [DecidableEq K] {knd : KeyKind prog w K}
structure SetParts (knd : KeyKind prog w K) (o : Obj) (ks : List K) (es : Array (Int × Value)) (ep : Nat) (t : SetTable) : Prop where
 ex : o.ExactSet
 dt : o.data = .set es ep t
 el : ElemsOf knd es.toList
 mem : ∀ k,k ∈ ks ↔ ∃ e ∈ es.toList,knd.is k e.2 = true
 small : es.size < scanBound
 fits : t.fits es.size = true
 len : es.size = ks.length
 wf : WfT (ledOf w) t
 nd : ks.Nodup
noncomputable def IsSetK (knd : KeyKind prog w K) (o : Obj) (ks : List K) : Prop := ∃ es ep t,SetParts knd o ks es ep t
theorem IsSetK.of {a : Addr} {o : Obj} {ks : List K} (ho : h.get? a = some o) (x : IsSetK knd o ks) : h.SetOf knd a (fun k=>decide (k ∈ ks)) ks.length :=
 let ⟨es,ep,t,p⟩:=x
 ⟨o,es,ep,t,ho,p.ex,p.dt,p.el,fun k=>by rw [decide_eq_true_eq]; exact p.mem k,p.small,p.fits,p.len⟩
theorem IsSetK.new : IsSetK knd ({ cls := .type "set",dict:=none,data := .set #[] 0 (.fresh 0 0 (ledOf w)) } : Obj) ([] : List K) :=
 ⟨#[],0,_,⟨rfl,rfl,rfl⟩,rfl,fun e he=>by simp at he,fun k=>by simp,by decide,by rfl,rfl,⟨List.Pairwise.nil,rfl,rfl⟩,List.nodup_nil⟩
theorem t_setNew {Q : Value → Heap → Prop} (q : ∀ a h' o,Sub [] h h' → h.get? a = none → h'.get? a = some o → (∀ (K : Type) [DecidableEq K] (knd : KeyKind prog w K),IsSetK knd o []) → Q (.ref a) h') : T prog w A (PySem.call (.type "set") []) h Q:=fun s es=>by
 subst es
 exact call_setL ⟨_,s.toks,q _ _ _ (Sub.push _ _) (get_size_none _) (get_push_self _ _) fun K zz knd=>IsSetK.new⟩
noncomputable def addK (ks : List K) (k : K) : List K:=if k ∈ ks then ks else ks ++ [k]
theorem gave_way (b : Bool) {s₁ : Shared} {E : Value → Shared → Prop} {Q' : Unit → Shared → Prop} (hq : Q' () s₁) : wpAny (model prog w) A (match b with | true=>rule "set.scan.the-table-gave-way" | false=>pure ()) Q' E s₁:=by
 cases b <;> first | exact wpAny_pure hq | exact wpAny_rule hq
theorem addHashed {s : Shared} {E : Value → Shared → Prop} {a : Addr} {o : Obj} {ks : List K} {k : K} {x : Value} {Q : Bool → Shared → Prop} (hkey : knd.is k x = true) (hsc : x.scannable = true) (ho : s.heap.get? a = some o) (hS : IsSetK knd o ks) (hroom : ks.length + 1 < scanBound)
  (q : ∀ h' o' b,Heap.SameBut a s.heap h' → h'.get? a = some o' → IsSetK knd o' (addK ks k) → Q b { s with heap:=h' }) : wpAny (model prog w) A (setAddHashed a x (knd.hash k)) Q E s:=by
 obtain ⟨es,ep,t,P⟩:=hS
 have hb1 : es.size + 1 < scanBound:=by rw [P.len]; exact hroom
 unfold setAddHashed setAddHashedIn
 refine wpAny_holding (wpAny_bind (wpAny_setState_of ho P.dt P.fits ?_))
 dsimp only
 rw [byScan_of hsc P.small P.el]
 simp only [↓reduceIte]
 unfold setAddByScan
 refine wpAny_bind (wpAny_bind (wpAny_rule (wpAny_bind (wpAny_setScan_of hkey ho P.dt P.fits P.el ?_))))
 cases hr : List.findIdx? (fun e=>knd.is k e.2) es.toList with
 | some j =>
  dsimp only
  obtain ⟨hj,hpj,_⟩:=List.findIdx?_eq_some_iff_getElem.mp hr
  have hk : k ∈ ks:=(P.mem k).mpr ⟨es.toList[j],List.getElem_mem hj,hpj⟩
  refine wpAny_pure (wpAny_pure ?_)
  have:=q s.heap o false (Heap.SameBut.refl a s.heap) ho ⟨es,ep,t,by rw [addK,if_pos hk]; exact P⟩
  exact this
 | none =>
  dsimp only
  have hk : k ∉ ks:=fun z=>by
   obtain ⟨e,he,hp⟩:=(P.mem k).mp z
   have:=List.findIdx?_eq_none_iff.mp hr e he
   rw [hp] at this; exact Bool.noConfusion this
  have hperm:=layNew_perm t es (knd.hash k) x
  have hfits:=layNew_fits t es (knd.hash k) x
  have hwf:=P.wf.layNew es (knd.hash k) x
  generalize layNew t es (knd.hash k) x = L at hperm hfits hwf ⊢
  obtain ⟨es1,t1,wasDummy,gave⟩:=L
  dsimp only at hperm hfits hwf ⊢
  rw [Array.toList_push] at hperm
  have hel1 : ElemsOf knd es1.toList:=(P.el.push hkey hsc).perm hperm
  have hlen1 : es1.size = es.size + 1:=by rw [← Array.length_toList,hperm.length_eq,List.length_append,Array.length_toList]; rfl
  have hmem1 : ∀ k',k' ∈ addK ks k ↔ ∃ e ∈ es1.toList,knd.is k' e.2 = true:=fun k'=>by
   have:=mem_push_iff (S:=fun k=>decide (k ∈ ks)) hkey (fun k'=>by rw [decide_eq_true_eq]; exact P.mem k') hperm k'
   rw [← this,addK,if_neg hk]
   simp
  have hnd : (addK ks k).Nodup:=by
   rw [addK,if_neg hk,List.nodup_append]
   exact ⟨P.nd,by simp,fun a ha b hb=>by rw [List.mem_singleton] at hb; subst hb; exact fun z=>hk (z ▸ ha)⟩
  have hlen : (addK ks k).length = ks.length + 1:=by rw [addK,if_neg hk]; simp
  have parts : ∀ {es2 : Array (Int × Value)} {ep2 : Nat} {t2 : SetTable} {o2 : Obj},o2.ExactSet → o2.data = .set es2 ep2 t2 → List.Perm es2.toList es1.toList → t2.fits es2.size = true → WfT (ledOf w) t2 → IsSetK knd o2 (addK ks k):=fun {es2 ep2 t2 o2} e1 e2 p f wf=>by
   have sz : es2.size = es1.size:=by rw [← Array.length_toList,p.length_eq,Array.length_toList]
   exact ⟨es2,ep2,t2,e1,e2,hel1.perm p,fun k'=>(hmem1 k').trans ⟨fun ⟨e,he,q⟩=>⟨e,p.mem_iff.mpr he,q⟩,fun ⟨e,he,q⟩=>⟨e,p.mem_iff.mp he,q⟩⟩,by omega,f,by rw [sz,hlen1,hlen,P.len],wf,hnd⟩
  have upd1 : ∀ {h₁ : Heap} {o₁ : Obj} {es₁ : Array (Int × Value)} {ep₁ : Nat} {t₁ : SetTable} (es2 : Array (Int × Value)) (t2 : SetTable),h₁.get? a = some o₁ → o₁.ExactSet → o₁.data = .set es₁ ep₁ t₁ → ∃ o2,(h₁.update a (Obj.putSet es2 t2)).get? a = some o2 ∧ o2.ExactSet ∧ o2.data = .set es2 (ep₁ + 1) t2:=fun {h₁ o₁ es₁ ep₁ t₁} es2 t2 g ex d=>by
   have hg:=Heap.get?_update_self (Obj.putSet es2 t2) g (by rw [putSet_of es2 t2 d]; rfl)
   rw [putSet_of es2 t2 d] at hg
   exact ⟨_,hg,ex,rfl⟩
  have tail : ∀ (t2 : SetTable),t2.fits es1.size = true → WfT (ledOf w) t2 → wpAny (model prog w) A (do
    storeSet a es1 t2
    if (!wasDummy && t2.tooFull) = true then do
      (match (relayAll t2 es1 (SetTable.grown es1.size)).2.2 with | true=>rule "set.scan.the-table-gave-way" | false=>pure ())
      storeSet a (relayAll t2 es1 (SetTable.grown es1.size)).1 (relayAll t2 es1 (SetTable.grown es1.size)).2.1
      pure (some true)
     else pure (some true)) (fun r s' => ∃ h' o',r = some true ∧ s' = { s with heap:=h' } ∧ Heap.SameBut a s.heap h' ∧ h'.get? a = some o' ∧ IsSetK knd o' (addK ks k)) E s:=by
   intro t2 f2 w2
   refine wpAny_bind (wpAny_storeSet_of ho P.dt ?_ (fits_of_scanBound (by omega)))
   obtain ⟨o2,g2,x2,d2⟩:=upd1 es1 t2 ho P.ex P.dt
   have sb1:=Heap.SameBut.update s.heap a (Obj.putSet es1 t2)
   split
   ·have hp:=relayAll_perm t2 es1 (SetTable.grown es1.size)
    have hfr:=relayAll_fits t2 es1 (SetTable.grown es1.size)
    have hwr:=w2.relayAll es1 (SetTable.grown es1.size)
    generalize relayAll t2 es1 (SetTable.grown es1.size) = Rl at hp hfr hwr ⊢
    obtain ⟨es2,t3,gave2⟩:=Rl
    dsimp only at hp hfr hwr ⊢
    refine wpAny_bind (gave_way gave2 ?_)
    have sz : es2.size = es1.size:=by rw [← Array.length_toList,hp.length_eq,Array.length_toList]
    refine wpAny_bind (wpAny_storeSet_of (s:={ s with heap:=s.heap.update a (Obj.putSet es1 t2) }) g2 d2 ?_ (fits_of_scanBound (by omega)))
    obtain ⟨o3,g3,x3,d3⟩:=upd1 es2 t3 g2 x2 d2
    exact wpAny_pure ⟨_,o3,rfl,rfl,sb1.trans (Heap.SameBut.update _ a _),g3,parts x3 d3 hp hfr hwr⟩
   ·exact wpAny_pure ⟨_,o2,rfl,rfl,sb1,g2,parts x2 d2 (List.Perm.refl _) f2 w2⟩
  refine wpAny_bind (gave_way gave ?_)
  split
  ·refine wpAny_bind ?_
   rw [hashByValue_scannable 8 hsc]
   refine wpAny_pure ?_
   refine wpAny_mono (tail (if plainKind x = true then t1 else { t1 with plain:=false }) ?_ ?_) ?_ fun zz zz z=>z
   ·split
    ·exact hfits
    ·exact SetTable.fits_plain_off hfits
   ·split
    ·exact hwf
    ·exact hwf.plain
   ·rintro r s' ⟨h',o',rfl,rfl,z1,z2,z3⟩
    exact wpAny_pure (q h' o' true z1 z2 z3)
  ·refine wpAny_bind (wpAny_pure ?_)
   simp only [↓reduceIte]
   refine wpAny_mono (tail t1 hfits hwf) ?_ fun zz zz z=>z
   rintro r s' ⟨h',o',rfl,rfl,z1,z2,z3⟩
   exact wpAny_pure (q h' o' true z1 z2 z3)
theorem t_setAdd {a : Addr} {o : Obj} {ks : List K} {k : K} {x : Value} {Q : Value → Heap → Prop} (hkey : knd.is k x = true) (hsc : x.scannable = true) (ho : h.get? a = some o) (hS : IsSetK knd o ks) (hroom : ks.length + 1 < scanBound)
  (q : ∀ h' o',Sub [a] h h' → h'.get? a = some o' → IsSetK knd o' (addK ks k) → Q .none h') : T prog w A (PySem.call (.builtin "set.add") [.ref a,x]) h Q:=fun s es=>by
 subst es
 refine wpAny_call_entry PySem.F.slot_set_add (IsSetK.of ho hS).typeIs PySem.F.entry_set_add ?_ (PySem.F.args_set_add_2 _ _)
 unfold Builtin.«set.add» Builtin.Frozenset.oneOther
 simp only [List.isEmpty_nil,bind_assoc]
 unfold Builtin.Frozenset.addrOf setAdd
 refine wpAny_bind (wpAny_pure ?_)
 try dsimp only
 refine wpAny_bind (wpAny_pure ?_)
 try dsimp only
 refine wpAny_bind (wpAny_holding (wpAny_bind (knd.pyHash hkey ?_)))
 refine addHashed (s:={ s with toks:=s.toks + 1 }) hkey hsc ho hS hroom fun h' o' b hsb ho' hS' => ?_
 show wpAny _ _ (ret Value.none) _ _ _
 exact wpAny_pure ⟨_,rfl,h',_,q h' o' (Sub.same hsb) ho' hS'⟩
theorem IsSetK.cls {o : Obj} {ks : List K} (x : IsSetK knd o ks) : o.cls = .type "set" ∧ o.dict = none:=let ⟨_,_,_,p⟩:=x; ⟨p.ex.1,p.ex.2.1⟩
end
end Mine
end
section
namespace Mine
theorem slot_sit_next : Slot "set_iterator" "__next__" "set_iterator.__next__" :=
 .of (owner := "set_iterator") (n := "__next__") (by rw [PySem.typeLookup_type,PySem.builtinLookup_eq_fast]; kernel_rfl!) (by decide +kernel) (by decide +kernel) (by decide +kernel)
  (by first | exact .inl (by decide +kernel) | exact .inr (by decide +kernel)) (by rw [PySem.isSubtype_type]; kernel_rfl!)
theorem entry_sit_next : entryFor table "set_iterator.__next__" = some Builtin.«set_iterator.__next__» := PySem.entryFor_of_tree (by kernel_rfl!)
theorem args_sit_next (a : Value) : argsOk "set_iterator.__next__" ⟨[a],[]⟩:=by unfold argsOk; kernel_rfl!
theorem entry_set_iterF : entryFor table "set.__iter__" = some Builtin.«frozenset.__iter__» :=
 entryFor_alias (id' := "frozenset.__iter__") (by kernel_rfl!) rfl (by decide +kernel) (by kernel_rfl!)
theorem perm_sub {α : Type} [DecidableEq α] : ∀ {a b : List α},a.Nodup → (∀ x ∈ a,x ∈ b) → b.length ≤ a.length → b.Perm a
 | [],b,_,_,h=>by
  have : b = []:=List.eq_nil_of_length_eq_zero (by simpa using h)
  rw [this]
 | x :: a,b,nd,hs,h=>by
  have hx:=hs x (.head _)
  rw [List.nodup_cons] at nd
  refine (List.perm_cons_erase hx).trans (List.Perm.cons x (perm_sub nd.2 (fun y hy => ?_) ?_))
  ·have hne : y ≠ x:=fun e=>nd.1 (e ▸ hy)
   exact (List.mem_erase_of_ne hne).mpr (hs y (.tail _ hy))
  ·rw [List.length_erase_of_mem hx]
   simp only [List.length_cons] at h
   omega
theorem choices {α β : Type} {p : β → α → Prop} : ∀ (l : List α),(∀ e ∈ l,∃ k,p k e) → ∃ ks : List β,ks.length = l.length ∧ ∀ (i : Nat) (e : α),l[i]? = some e → ∃ k,ks[i]? = some k ∧ p k e
 | [],_=>⟨[],rfl,fun i e h=>by simp at h⟩
 | x :: l,h=>by
  obtain ⟨k,hk⟩:=h x (.head _)
  obtain ⟨ks,h1,h2⟩:=choices l fun e he=>h e (.tail _ he)
  refine ⟨k :: ks,by simp [h1],fun i e he => ?_⟩
  cases i with
  | zero=>simp at he; subst he; exact ⟨k,rfl,hk⟩
  | succ i=>exact h2 i e (by simpa using he)
theorem erase_perm {α : Type} : ∀ {l : List α} {i : Nat} (h : i < l.length),(l[i] :: l.eraseIdx i).Perm l
 | [],i,h=>by simp at h
 | x :: l,0,h=>by simp
 | x :: l,i + 1,h=>by
  have:=erase_perm (l:=l) (i:=i) (by simpa using h)
  simp only [List.getElem_cons_succ,List.eraseIdx_cons_succ]
  exact (List.Perm.swap x _ _).trans (List.Perm.cons x this)
theorem pick_go {α : Type} (next : Nat → Nat) : ∀ (fuel k : Nat) (left : List α) (out : Array α),left.length ≤ fuel → (pickOrder.go next fuel k left out).toList.Perm (out.toList ++ left):=by
 intro fuel
 induction fuel with
 | zero =>
  intro k left out h
  have : left = []:=List.eq_nil_of_length_eq_zero (by omega)
  subst this
  rw [pickOrder.go]; simp
 | succ fuel ih =>
  intro k left out h
  rw [pickOrder.go]
  cases e : left[next k % left.length]? with
  | none =>
   have : left = []:=by
    cases left with
    | nil=>rfl
    | cons y ys =>
     have hlt : next k % (y :: ys).length < (y :: ys).length:=Nat.mod_lt _ (by walk_at "ms")
     rw [List.getElem?_eq_getElem hlt] at e; cases e
   subst this
   simp
  | some x =>
   obtain ⟨hlt,hx⟩:=List.getElem?_eq_some_iff.mp e
   refine (ih (k + 1) _ _ (by rw [List.length_eraseIdx_of_lt hlt]; omega)).trans ?_
   rw [Array.toList_push,List.append_assoc]
   refine List.Perm.append_left _ ?_
   rw [← hx]
   exact erase_perm hlt
theorem pick_perm {α : Type} (next : Nat → Nat) (xs : Array α) : (pickOrder next xs).toList.Perm xs.toList:=by
 have:=pick_go next xs.size 0 xs.toList #[] (by walk_at "ms")
 simpa [pickOrder] using this
section
variable {prog : Program} {w : World} {A : Around} {h h' h₀ : Heap} {env : Env} {D : List Addr} {L : Addr} {m m' : Str → Option Value} {l l' : List (Addr × Obj)}
variable {K : Type} [DecidableEq K] {knd : KeyKind prog w K}
theorem wp_choose1 {src : Source} {n : Nat} {s : Shared} {E : Value → Shared → Prop} {Q : Nat → Shared → Prop} (hn : n ≠ 0) (q : ∀ i d,i < n → Q i { s with drawn:=d }) : wpAny (model prog w) A (choose src n) Q E s:=fun Γ p zz=>by
 unfold choose
 rw [Sem.wp]
 exact ⟨hn,by rw [Sem.wp]; exact q _ _ (Nat.mod_lt _ (Nat.pos_of_ne_zero hn))⟩
theorem wp_drawOrder {α : Type} {E : Value → Shared → Prop} : ∀ (n : Nat) (xs : List α) (s : Shared) {Q : List α → Shared → Prop},xs.length = n → (∀ ys d,List.Perm ys xs → Q ys { s with drawn:=d }) → wpAny (model prog w) A (drawOrder n xs) Q E s
 | 0,xs,s,Q,hn,q=>by
  have : xs = []:=List.eq_nil_of_length_eq_zero hn
  subst this
  exact wpAny_pure (q [] s.drawn (List.Perm.refl _))
 | n + 1,[],s,Q,hn,q=>by simp at hn
 | n + 1,x :: xs,s,Q,hn,q=>by
  rw [drawOrder.eq_3 (x_2:=by simp)]
  refine wpAny_bind (wp_choose1 (by walk_at "ms") fun i d hi => ?_)
  rw [List.getElem?_eq_getElem hi]
  refine wpAny_bind (wp_drawOrder n _ _ (by rw [List.length_eraseIdx_of_lt hi]; omega) fun ys d' hp=>wpAny_pure (q _ d' ?_))
  exact (List.Perm.cons _ hp).trans (erase_perm hi)
noncomputable def sitO (first : Value) (i : Nat) (a : Addr) (n ep : Nat) : Obj:={ cls := .type "set_iterator",dict:=none,data := .fields #[first,.int i 0,.ref a,.int n 0,.int ep 0],slots := #[] }
structure WalkI (prog : Program) (w : World) (A : Around) (I : Addr) (fx : List (Addr × Obj)) (n : Nat) (P : Nat → Value → (Addr → Prop) → Heap → Prop) (St : Nat → Obj → Prop) (target : PySem.Expr) : Prop where
 item : ∀ i h o,i < n → (∀ p ∈ fx,h.get? p.1 = some p.2) → h.get? I = some o → St i o → T prog w A (pyNext (.ref I)) h fun r h' => ∃ v,r = some v ∧ T prog w A (letOwnedTupleGo target (.ref I) v) h' fun zz h₂ => ∃ o',P i v (fun b=>h.get? b = none) h₂ ∧ Sub [I] h h₂ ∧ h₂.get? I = some o' ∧ St (i + 1) o'
 done : ∀ h o,(∀ p ∈ fx,h.get? p.1 = some p.2) → h.get? I = some o → St n o → T prog w A (pyNext (.ref I)) h fun r h'=>r = none ∧ Sub [I] h h'
structure InOrder (knd : KeyKind prog w K) (ks : List K) (ord : List Value) : Prop where
 keys : ∃ ks',List.Perm ks' ks ∧ ks'.length = ord.length ∧ ∀ (i : Nat) v,ord[i]? = some v → ∃ k,ks'[i]? = some k ∧ knd.is k v = true ∧ v.scannable = true
theorem SetParts.order {o : Obj} {ks : List K} {es : Array (Int × Value)} {ep : Nat} {t : SetTable} (P : SetParts knd o ks es ep t) {es' : List (Int × Value)} (p : List.Perm es' es.toList) : InOrder knd ks (es'.map (·.2)):=by
 have hel : ∀ e ∈ es',∃ k,knd.is k e.2 = true ∧ e.2.scannable = true:=fun e he=>by
  obtain ⟨⟨k,h1,_⟩,h2⟩:=P.el e (p.mem_iff.mp he)
  exact ⟨k,h1,h2⟩
 obtain ⟨ks',h1,h2⟩:=choices es' hel
 have hlen : es'.length = ks.length:=by rw [p.length_eq,Array.length_toList,P.len]
 refine ⟨ks',perm_sub P.nd (fun k hk => ?_) (by omega),by simp [h1],fun i v hv => ?_⟩
 ·obtain ⟨e,he,hke⟩:=(P.mem k).mp hk
  obtain ⟨i,hi⟩:=List.mem_iff_getElem?.mp (p.mem_iff.mpr he)
  obtain ⟨k',g1,g2,_⟩:=h2 i e hi
  rw [knd.inj e.2 k k' hke g2]
  exact List.mem_of_getElem? g1
 ·rw [List.getElem?_map] at hv
  obtain ⟨e,he,rfl⟩:=Option.map_eq_some_iff.mp hv
  obtain ⟨k,g1,g2,g3⟩:=h2 i e he
  exact ⟨k,g1,g2,g3⟩
noncomputable def GoesOn (prog : Program) (w : World) (A : Around) (a : Addr) (o : Obj) (n ep : Nat) (ord : List Value) (f : Nat → Nat) : Prop := ∀ (s : Shared) (i : Nat) (Q : Option (Value × Nat) → Shared → Prop) (E : Value → Shared → Prop),s.heap.get? a = some o → i ≤ n → Q ((ord[i]?).map fun v=>(v,f (i + 1))) s → wpAny (model prog w) A (setNext a (f i) i ep) Q E s
theorem SetParts.goesText {a : Addr} {o : Obj} {ks : List K} {es : Array (Int × Value)} {ep : Nat} {t : SetTable} (P : SetParts knd o ks es ep t) (hb : w.params.followText "set-order" = true) : GoesOn prog w A a o es.size ep ((pickOrder (w.params.setOrder a ep) es).toList.map (·.2)) fun zz=>0:=fun s i Q E ho hi q=>by
 unfold setNext setsByText setWalk setsByText
 refine wpAny_bind (wpAny_setState_of ho P.dt P.fits ?_)
 dsimp only
 refine wpAny_bind (wpAny_bind (wpAny_askSetting (wpAny_pure ?_)))
 dsimp only
 rw [show (model prog w).w.params.followText "set-order" = _ from hb]
 simp only [if_true]
 rw [if_neg (by walk_at "ms")]
 refine wpAny_bind (wpAny_bind (wpAny_setState_of ho P.dt P.fits ?_))
 dsimp only
 refine wpAny_bind (wpAny_bind (wpAny_askSetting (wpAny_pure ?_)))
 dsimp only
 rw [show (model prog w).w.params.followText "set-order" = _ from hb]
 simp only [if_true]
 refine wpAny_bind (wpAny_askSetting (wpAny_pure (wpAny_pure ?_)))
 rw [show (model prog w).w.params.setOrder = w.params.setOrder from rfl]
 simpa [Function.comp_def] using q
noncomputable def slotAt (xs : Array Nat) : Nat → Nat
 | 0=>0
 | i + 1=>xs.getD i 0 + 1
theorem SetParts.goesLed {a : Addr} {o : Obj} {ks : List K} {es : Array (Int × Value)} {ep : Nat} {t : SetTable} (P : SetParts knd o ks es ep t) (hb : w.params.followText "set-order" = false) (hd : (!t.plain && decide (es.size > 1)) = false) :
  GoesOn prog w A a o es.size ep (es.toList.map (·.2)) (slotAt t.place):=fun s i Q E ho hi q=>by
 have hps : t.place.size = es.size:=by
  have:=P.fits
  simp only [SetTable.fits,Bool.and_eq_true,beq_iff_eq] at this
  exact this.1
 unfold setNext setsByText
 refine wpAny_bind (wpAny_setState_of ho P.dt P.fits ?_)
 dsimp only
 refine wpAny_bind (wpAny_bind (wpAny_askSetting (wpAny_pure ?_)))
 dsimp only
 rw [show (model prog w).w.params.followText "set-order" = _ from hb]
 simp only [Bool.false_eq_true,if_false]
 show wpAny _ _ (if (!t.plain && decide (es.size > 1)) = true then _ else _) _ _ _
 rw [hd]
 simp only [Bool.false_eq_true,if_false]
 have hl : t.led = true:=by rw [P.wf.l,ledOf,hb]; rfl
 refine wpAny_bind ?_
 show wpAny _ _ (if (!t.led && !es.isEmpty) = true then _ else _) _ _ _
 rw [hl]
 simp only [Bool.not_true,Bool.false_and,Bool.false_eq_true,if_false]
 refine wpAny_pure ?_
 have hbel : SetTable.below t.place (slotAt t.place i) = i:=by
  refine below_eq (fun b x hb e => ?_) (fun b x hb e => ?_) (by omega)
  ·cases i with
   | zero=>omega
   | succ i =>
    have hi' : i < t.place.size:=by omega
    have hbl : b < t.place.size:=by omega
    have e1 : t.place.getD i 0 = t.place[i]:=by simp [hi']
    have e2 : x = t.place[b]:=by rw [Array.getElem?_eq_getElem hbl] at e; exact (Option.some.inj e).symm
    simp only [slotAt,e1,e2]
    rcases Nat.lt_or_eq_of_le (Nat.le_of_lt_succ hb) with z | z
    ·have:=List.pairwise_iff_getElem.mp P.wf.s b i (by simpa using hbl) (by simpa using hi') z
     simp only [Array.getElem_toList] at this
     omega
    ·subst z; omega
  ·cases i with
   | zero=>exact Nat.zero_le _
   | succ i =>
    have hbl : b < t.place.size:=by
     rcases Nat.lt_or_ge b t.place.size with z | z
     ·exact z
     ·rw [Array.getElem?_eq_none z] at e; cases e
    have hi' : i < t.place.size:=by omega
    have e1 : t.place.getD i 0 = t.place[i]:=by simp [hi']
    have e2 : x = t.place[b]:=by rw [Array.getElem?_eq_getElem hbl] at e; exact (Option.some.inj e).symm
    simp only [slotAt,e1,e2]
    have:=List.pairwise_iff_getElem.mp P.wf.s i b (by simpa using hi') (by simpa using hbl) (by omega)
    simp only [Array.getElem_toList] at this
    omega
 rw [hbel]
 rcases Nat.lt_or_ge i es.size with z | z
 ·rw [Array.getElem?_eq_getElem z,Array.getElem?_eq_getElem (by omega : i < t.place.size)]
  refine wpAny_pure ?_
  have e1 : t.place.getD i 0 = t.place[i]'(by omega):=by simp [hps,z]
  simpa [z,e1,slotAt] using q
 ·rw [Array.getElem?_eq_none z]
  refine wpAny_pure ?_
  simpa [z] using q
theorem sit_fields {s : Shared} {I a : Addr} {first : Value} {i n ep : Nat} {Q : Array Value → Shared → Prop} {E : Value → Shared → Prop} (g : s.heap.get? I = some (sitO first i a n ep)) (q : Q #[first,.int i 0,.ref a,.int n 0,.int ep 0] s) : wpAny (model prog w) A (fieldsOf (.ref I)) Q E s:=wpAny_fieldsOf g rfl q
theorem t_nextLed {I a : Addr} {o : Obj} {ks : List K} {es : Array (Int × Value)} {ep i : Nat} {t : SetTable} {ord : List Value} {f : Nat → Nat} {v : Value} {Q : Option Value → Heap → Prop} (P : SetParts knd o ks es ep t) (go : ∀ B,GoesOn prog w B a o es.size ep ord f) (ho : h.get? a = some o) (g : h.get? I = some (sitO (rawInt (f i)) i a es.size ep)) (hv : ord[i]? = some v) (hi : i < es.size)
  (q : ∀ h',Sub [I] h h' → h'.get? I = some (sitO (rawInt (f (i + 1))) (i + 1) a es.size ep) → Q (some v) h') : T prog w A (pyNext (.ref I)) h Q:=fun s e=>by
 subst e
 have hT : s.TypeIs (.ref I) "set_iterator" := ⟨_,g,rfl⟩
 unfold pyNext
 refine wpAny_bind (wpAny_attempt (wpAny_callSpecial?_slot (name:=ofString "__next__") hT slot_sit_next (wpAny_call_entry slot_sit_next hT entry_sit_next ?_ (args_sit_next _))))
 refine wpAny_bind (wpAny_pure ?_)
 dsimp only
 refine wpAny_bind (sit_fields g ?_)
 dsimp only [List.toList_toArray]
 refine wpAny_bind (wpAny_setEntries_of ho P.dt P.fits ?_)
 rw [if_neg (by walk_at "ms")]
 refine wpAny_bind (go _ s i _ _ ho (by omega) ?_)
 rw [hv]
 dsimp only [Option.map]
 refine wpAny_bind (wpAny_setField_rec g (by walk_at "ms") fun h₁ g₁ s₁ => ?_)
 refine wpAny_bind (wpAny_setField_rec (s:={ s with heap:=h₁ }) g₁ (by walk_at "ms") fun h₂ g₂ s₂ => ?_)
 refine wpAny_pure ⟨v,rfl,wpAny_pure ⟨h₂,s.toks,q h₂ ((Sub.same s₁).trans (Sub.same s₂)) ?_⟩⟩
 have e : ((i + 1 : Nat) : Int) = (i : Int) + 1:=by omega
 rw [g₂,sitO,e]
 simp [rawInt]
end
end Mine
end
section
namespace Mine
section
variable {prog : Program} {w : World} {A : Around} {K : Frag} {C : Addr} {R : Result → Shared → Prop} {h : Heap} {g : Array GenState} {d : Drawn} {t : Nat} {os : OsState}
end
end Mine
end
section
namespace Mine
section
variable {prog : Program} {w : World} {A : Around} {h h' h₀ : Heap} {M : Model}
end
end Mine
end
section
namespace Mine
section
variable {key : Nat → Int} {n : Nat} {p : Array Nat}
noncomputable def kk (key : Nat → Int) (p : Array Nat) (i : Nat) : Int:=key (p.getD i 0)
end
end Mine
end
section
namespace Mine
section
variable {prog : Program} {w : World} {A : Around} {E : Value → Shared → Prop} {s : Shared} {h h' h₀ : Heap}
end
end Mine
end
section
namespace Mine
section
variable {prog : Program} {w : World} {A : Around} {h h' h₀ : Heap}
end
end Mine
end
section
namespace Mine
section
variable {prog : Program} {w : World} {A : Around} {E : Value → Shared → Prop} {s : Shared} {h h' h₀ : Heap}
end
end Mine
end
section
namespace Mine
section
variable (a b : List Int) (alo ahi blo bhi : Nat)
variable {a b alo ahi blo bhi}
variable (a b alo blo)
variable {a b alo blo}
end
end Mine
end
section
namespace Mine
section
variable {prog : Program} {w : World} {A : Around} {h h' h₀ : Heap}
theorem intsAre_snoc {us : List Value} {qs : List Int} {n : Int} {t : Tok} (x : IntsAre us qs) : IntsAre (us ++ [.int n t]) (qs ++ [n]):=by
 induction x with
 | nil=>exact .cons n t .nil
 | cons a b _ ih=>exact .cons a b ih
end
end Mine
end
section
namespace Mine
end Mine
end
section
namespace Mine
section
variable {prog : Program} {w : World} {A : Around} {h h' h₀ : Heap}
noncomputable def Differs (h : Heap) (u v : Value) : Prop:=(plainIs u v = true ∧ u ≠ v) ∨ ∃ x y ox oy,u = .ref x ∧ v = .ref y ∧ x ≠ y ∧ h.get? x = some ox ∧ h.get? y = some oy ∧ ox.cls ≠ .type "tuple"
theorem t_is_no {u v : Value} {Q : Value → Heap → Prop} (hd : Differs h u v) (q : Q (.bool false) h) : T prog w A (compareOp .Is u v) h Q:=fun s es=>by
 subst es
 rcases hd with ⟨hp,hn⟩ | ⟨x,y,ox,oy,rfl,rfl,hn,hx,hy,hc⟩
 ·exact wpAny_is_other hp hn ⟨_,s.toks,q⟩
 ·exact wpAny_is_ref_other hn hx hy hc ⟨_,s.toks,q⟩
theorem Differs.sub {D : List Addr} {u v : Value} (hd : Differs h u v) (x : Sub D h h') (hu : ∀ a,u = .ref a → a ∉ D) (hv : ∀ a,v = .ref a → a ∉ D) : Differs h' u v:=by
 rcases hd with hd | ⟨x',y,ox,oy,rfl,rfl,hn,hx,hy,hc⟩
 ·exact .inl hd
 ·exact .inr ⟨x',y,ox,oy,rfl,rfl,hn,x _ _ (hu _ rfl) hx,x _ _ (hv _ rfl) hy,hc⟩
theorem fn_set_seq1 (P : Params) : FnOk (frag P) at_SequenceMatcher_set_seq1 fdOf_SequenceMatcher_set_seq1 (bodyN (stN (bodyN (stN pwBody 5)) 3)) :=
 ⟨⟨obOf_SequenceMatcher_set_seq1 P,by kernel_rfl!,rfl⟩,by kernel_rfl!,by kernel_rfl!,by kernel_rfl!,by kernel_rfl!,by kernel_rfl!,by kernel_rfl!,by kernel_rfl!,by kernel_rfl!⟩
theorem fn_set_seq2 (P : Params) : FnOk (frag P) at_SequenceMatcher_set_seq2 fdOf_SequenceMatcher_set_seq2 (bodyN (stN (bodyN (stN pwBody 5)) 4)) :=
 ⟨⟨obOf_SequenceMatcher_set_seq2 P,by kernel_rfl!,rfl⟩,by kernel_rfl!,by kernel_rfl!,by kernel_rfl!,by kernel_rfl!,by kernel_rfl!,by kernel_rfl!,by kernel_rfl!,by kernel_rfl!⟩
theorem fn_set_seqs (P : Params) : FnOk (frag P) at_SequenceMatcher_set_seqs fdOf_SequenceMatcher_set_seqs (bodyN (stN (bodyN (stN pwBody 5)) 2)) :=
 ⟨⟨obOf_SequenceMatcher_set_seqs P,by kernel_rfl!,rfl⟩,by kernel_rfl!,by kernel_rfl!,by kernel_rfl!,by kernel_rfl!,by kernel_rfl!,by kernel_rfl!,by kernel_rfl!,by kernel_rfl!⟩
theorem fn_init (P : Params) : FnOk (frag P) at_SequenceMatcher_init fdOf_SequenceMatcher_init (bodyN (stN (bodyN (stN pwBody 5)) 1)) :=
 ⟨⟨obOf_SequenceMatcher_init P,by kernel_rfl!,rfl⟩,by kernel_rfl!,by kernel_rfl!,by kernel_rfl!,by kernel_rfl!,by kernel_rfl!,by kernel_rfl!,by kernel_rfl!,by kernel_rfl!⟩
theorem inst_ne {x dx : Addr} {od : Obj} {N : List Str} {am : Str → Option Value} (ho : h.get? x = some (instObj aSM dx)) (hdx : h.get? dx = some od) (ia : IsAttrs N od am) : x ≠ dx:=fun q=>by
 obtain ⟨es,n,e1,_⟩:=ia
 rw [q,hdx,e1] at ho; cases ho
theorem gr_in {hb : Heap} {dx L : Addr} {m : Str → Option Value} {l : List (Addr × Obj)} {h₂ : Heap} {K : Frag} (G : Gr K hb) (B : Sub [] hb h) (hn : hb.get? dx = none) (H : S h [dx] L m l h₂) : Gr K h₂:=G.sub fun b o zz eb=>H.base b o (fun q=>by
  obtain rfl : b = dx:=by simpa using q
  rw [hn] at eb; cases eb) (B b o (by walk_at "ms") eb)
theorem set_seq1 {x dx : Addr} {u v : Value} {od : Obj} {am : Str → Option Value} {hb : Heap} {Q : Value → Heap → Prop} (G : Gr (frag w.params) hb) (B : Sub [] hb h) (hn : hb.get? dx = none) (hroom : A.depth < recursionLimit)
  (ho : h.get? x = some (instObj aSM dx)) (hdx : h.get? dx = some od) (ia : IsAttrs attrN od am) (ha : am (ofString "a") = some u) (hu : handedIn u = true) (hd : Differs h v u) (nv : v ≠ .ref dx) (nu : u ≠ .ref dx)
  (q : ∀ h' od',Sub [dx] h h' → h'.get? dx = some od' → IsAttrs attrN od' (upd (upd (upd am (ofString "a") v) (ofString "matching_blocks") .none) (ofString "opcodes") .none) → Q .none h') :
  TC prog w A (.call (.ref at_SequenceMatcher_set_seq1) ⟨[.ref x,v],[]⟩) h Q:=by
 refine TC.def (binds:=[(ofString "self",.ref x),(ofString "a",v)]) [(dx,od)] (fn_set_seq1 w.params) (G.sub B) hroom (by kernel_rfl!) (by kernel_rfl!) (by simpa using hdx) (by walk_at "ms") fun h₁ L H => ?_
 have e:=(fn_set_seq1 w.params).ok L
 have k1 : (callEnv fdOf_SequenceMatcher_set_seq1 L at_SequenceMatcher_set_seq1).kindOf (ofString "self") = some .local:=by kernel_rfl!
 have k2 : (callEnv fdOf_SequenceMatcher_set_seq1 L at_SequenceMatcher_set_seq1).kindOf (ofString "a") = some .local:=by kernel_rfl!
 replace H : S h [dx] L (upd (upd (fun zz=>none) (ofString "self") (.ref x)) (ofString "a") v) [(dx,od)] h₁:=H
 generalize henv : callEnv fdOf_SequenceMatcher_set_seq1 L at_SequenceMatcher_set_seq1 = env at *
 have hL : L = env.locals:=by rw [← henv]; rfl
 subst hL
 clear henv
 generalize A.deeper env = A' at *
 have hxd:=inst_ne ho hdx ia
 have GG : ∀ {m l h₂},S h [dx] env.locals m l h₂ → Gr (frag w.params) h₂:=fun H=>gr_in G B hn H
 have Hx : ∀ {m l h₂},S h [dx] env.locals m l h₂ → h₂.get? x = some (instObj aSM dx):=fun H=>H.old ho (by simpa using hxd)
 have P:=plainSM w.params
 refine T.execs_cons (T.Expr (T.cStr fun t=>⟨(fun b q=>by cases q), ?_⟩) e.inter)
 refine T.execs_cons (T.If (T.isTrue_Compare ?_))
 walk_at "nm"
 refine T.Attribute ?_
 walk_at "nm"
 refine T.getAttr P (GG H).k ⟨Hx H,H.get (by walk_at "ms")⟩ ia ha (attrFind _ (by delta attrN; walk_at "mem")) hu ?_
 refine t_is_no (hd.sub (D:=[dx]) H.base (fun a q=>by subst q; simpa using fun z=>nv (by rw [z])) (fun a q=>by subst q; simpa using fun z=>nu (by rw [z]))) ?_
 refine T.truthy_bool ?_
 refine T.execs_nil ?_
 refine T.execs_cons (t_Assign_Attr ?_)
 walk_at "nm"
 walk_at "nm"
 refine T.setAttr P (GG H).k H 0 rfl (Hx H) ia (attrTake _ (by delta attrN; walk_at "mem")) (fun h₂ od₂ H₂ zz ia₂ zz => ?_) (by delta attrN; walk_at "mem") (by decide)
 refine T.execs_cons (t_Assign2 (T.cNone (t_assignAttr ?_)))
 walk_at "nm"
 refine T.setAttr P (GG H₂).k H₂ 0 rfl (Hx H₂) ia₂ (attrTake _ (by delta attrN; walk_at "mem")) (fun h₃ od₃ H₃ zz ia₃ zz=>t_assignAttr ?_) (by delta attrN; walk_at "mem") (by decide)
 walk_at "nm"
 refine T.setAttr P (GG H₃).k H₃ 0 rfl (Hx H₃) ia₃ (attrTake _ (by delta attrN; walk_at "mem")) (fun h₄ od₄ H₄ zz ia₄ zz => ?_) (by delta attrN; walk_at "mem") (by decide)
 exact T.execs_nil (q h₄ od₄ H₄.base (H₄.get (by walk_at "ms")) ia₄)
noncomputable def am2 (am : Str → Option Value) (v : Value) (d dj dp : Addr) : Str → Option Value :=
 upd (upd (upd (upd (upd (upd (upd am (ofString "b") v) (ofString "matching_blocks") .none) (ofString "opcodes") .none) (ofString "fullbcount") .none) (ofString "b2j") (.ref d)) (ofString "bjunk") (.ref dj)) (ofString "bpopular") (.ref dp)
end
end Mine
end
section
namespace Mine
section
variable {prog : Program} {w : World} {A : Around} {h h' h₀ : Heap}
end
end Mine
end
section
namespace Mine
section
variable {prog : Program} {w : World} {M : Model} {A : Around} {E : Value → Shared → Prop} {s : Shared} {h h' h₀ : Heap}
end
end Mine
end
section
namespace Mine
section
variable {prog : Program} {w : World} {M : Model} {A : Around} {E : Value → Shared → Prop} {s : Shared} {h h' h₀ : Heap}
end
end Mine
end
section
namespace Mine
section
variable {prog : Program} {w : World} {A : Around} {h h' h₀ : Heap}
end
end Mine
end
section
namespace Mine
noncomputable def forBody : Stmt → List Stmt
 | .For _ _ b _ _=>b
 | _=>[]
noncomputable def flmB : List Stmt:=bodyN (stN (bodyN (stN pwBody 5)) 6)
noncomputable def outB : List Stmt:=forBody (stN flmB 7)
noncomputable def inB : List Stmt:=forBody (stN outB 2)
section
variable {prog : Program} {w : World} {A : Around} {h h' h₀ : Heap} {env : Env} {m : Str → Option Value}
end
end Mine
end
section
namespace Mine
section
variable {ns ms : List Int} {alo blo bhi i idx jn : Nat} {k : Int} {kvs : List (Int × Value)} {bi bj bk : Nat}
end
end Mine
end
section
namespace Mine
section
variable {prog : Program} {w : World} {A : Around} {h h' h₀ : Heap} {env : Env} {D : List Addr} {m : Str → Option Value} {l : List (Addr × Obj)}
end
end Mine
end
section
namespace Mine
section
variable {prog : Program} {w : World} {A : Around} {h h' h₀ : Heap} {env : Env} {D : List Addr} {m : Str → Option Value} {l : List (Addr × Obj)}
end
end Mine
end
section
namespace Mine
section
variable {prog : Program} {w : World} {A : Around} {h h' h₀ : Heap} {env : Env} {D : List Addr} {m : Str → Option Value} {l : List (Addr × Obj)}
end
end Mine
end
section
namespace Mine
section
variable {prog : Program} {w : World} {A : Around} {h h' h₀ h₁ : Heap} {env cenv : Env} {D : List Addr} {m : Str → Option Value} {l lo : List (Addr × Obj)}
noncomputable def compTests (env : Env) (ifs : List PySem.Expr) : Sem Bool:=forIn ifs true fun c r=>if r = true then do let ok ← isTrue c env (eval c env); pure (ForInStep.yield ok) else pure (ForInStep.yield r)
structure Iter (prog : Program) (w : World) (A : Around) (I : Addr) (hb : Heap) (n : Nat) (P : Nat → Value → Prop) (St : Nat → Obj → Prop) (target : PySem.Expr) : Prop where
 item : ∀ i h o,i < n → Sub [] hb h → h.get? I = some o → St i o → T prog w A (pyNext (.ref I)) h fun r h' => ∃ v o',r = some v ∧ P i v ∧ Sub [I] h h' ∧ h'.get? I = some o' ∧ St (i + 1) o'
 done : ∀ h o,Sub [] hb h → h.get? I = some o → St n o → T prog w A (pyNext (.ref I)) h fun r h'=>r = none ∧ Sub [I] h h'
 go : ∀ i v h o,P i v → h.get? I = some o → St (i + 1) o → T prog w A (letOwnedTupleGo target (.ref I) v) h fun zz h'=>h' = h
 self : ∀ h o,Sub [] hb h → h.get? I = some o → St 0 o → T prog w A (pyIter (.ref I)) h fun r h'=>r = .ref I ∧ h' = h
structure Ext (h₁ : Heap) (l : List (Addr × Obj)) (h' : Heap) : Prop where
 sub : Sub [] h₁ h'
 led : ∀ p ∈ l,h'.get? p.1 = some p.2
 new : ∀ p ∈ l,h₁.get? p.1 = none
 nodup : (l.map (·.1)).Nodup
theorem S.ext {L : Addr} (H : S h₀ D L m lo h₁) (x : Ext h₁ l h') : S h₀ D L m (l ++ lo) h' where
 base:=(H.sub x.sub).base
 ns:=(H.sub x.sub).ns
 led:=fun p hp=>(List.mem_append.mp hp).elim (x.led p) ((H.sub x.sub).led p)
 own:=fun p hp=>(List.mem_append.mp hp).elim (fun q => .inr (H.fresh (x.new p q)).1) (H.own p)
 nodup:=by
  rw [List.map_append,List.nodup_append]
  refine ⟨x.nodup,H.nodup,fun a ha b hb e => ?_⟩
  obtain ⟨p,hp,rfl⟩:=List.mem_map.mp ha
  exact (H.fresh (x.new p hp)).2.2 (e ▸ hb)
 offL:=by
  rw [List.map_append,List.mem_append]
  rintro (q | q)
  ·obtain ⟨p,hp,e⟩:=List.mem_map.mp q
   exact (H.fresh (x.new p hp)).2.1 e
  ·exact H.offL q
 newL:=H.newL
 dl:=fun d hd=>by rw [List.map_append,List.mem_append]; exact .inr (H.dl d hd)
theorem cenv_ok {scope : Scope} {cl : List (Str × Addr)} {C : Addr} (e : EnvOk env) (hk : scope.kind = .function) : EnvOk (compEnvC scope cl C env):=⟨hk,e.glob,e.blt,by unfold interactive; simp [compEnvC,relabel,hk]⟩
theorem relabel_of {env' : Env} {scope : Scope} (hs : env.scope = env'.scope) : relabel scope env = relabel scope env':=by
 have h2 : ∀ x,env.kindOf x = env'.kindOf x:=fun x=>by unfold Env.kindOf; rw [hs]
 unfold relabel
 simp only [hs,h2]
theorem comp_looks {scope : Scope} (hcell : (scope.names.all fun y=>y.2 != .cell) = true) (hnames : (scope.names.all fun y=>y.2 != .local || decide (scope.names.lookup y.1 = some .local)) = true) :
  (∀ y ∈ scope.names,y.2 ≠ .cell) ∧ ∀ y ∈ scope.names,y.2 = .local → scope.names.lookup y.1 = some .local :=
 ⟨fun y hy=>by simpa using List.all_eq_true.mp hcell y hy,fun y hy hl=>by
  have:=List.all_eq_true.mp hnames y hy
  simpa [hl] using this⟩
end
end Mine
end
section
namespace Mine
section
variable {prog : Program} {w : World} {A : Around} {h h' h₀ h₁ : Heap} {env cenv : Env} {D : List Addr} {m : Str → Option Value} {l lo : List (Addr × Obj)} {K : Frag}
noncomputable def litS (ax : Addr) (i : Nat) (o : Obj) : Prop:=o.cls = .type "list_iterator" ∧ o.data = .fields #[.ref ax,.int i 0]
theorem Iter.list {I ax : Addr} {hb : Heap} {vs : List Value} {target : PySem.Expr} (hh : A.handled = none) (hl : hb.IsList ax vs.toArray)
  (go : ∀ i v h o,vs[i]? = some v → h.get? I = some o → litS ax (i + 1) o → T prog w A (letOwnedTupleGo target (.ref I) v) h fun zz h'=>h' = h) : Iter prog w A I hb vs.length (fun i v=>vs[i]? = some v) (litS ax) target where
 item:=fun i h o hi sb g st s es=>by
  subst es
  have hit : s.heap.IsListIter I ax i:=⟨o,g,st.1,st.2⟩
  refine wpAny_pyNext_list_item hit (hl.at fun o eo=>sb _ _ (by walk_at "ms") eo) (x:=vs[i]) (by simp [hi]) fun h' hit' hs' => ?_
  obtain ⟨o',g',c',d'⟩:=hit'
  exact ⟨h',s.toks,vs[i],o',rfl,by simp [hi],Sub.same hs',g',c',d'⟩
 done:=fun h o sb g st s es=>by
  subst es
  have hit : s.heap.IsListIter I ax vs.length:=⟨o,g,st.1,st.2⟩
  exact wpAny_pyNext_list_end hh hit (hl.at fun o eo=>sb _ _ (by walk_at "ms") eo) (by walk_at "ms") fun h' he=>⟨h',s.toks,rfl,Sub.ext he⟩
 go:=go
 self:=fun h o sb g st s es=>by
  subst es
  have hit : s.heap.IsListIter I ax 0:=⟨o,g,st.1,st.2⟩
  exact wpAny_pyIter_listiter hit ⟨s.heap,s.toks,rfl,rfl⟩
noncomputable def ritO (a b : Int) (i : Nat) : Obj:={ cls := .type "range_iterator",dict:=none,data := .fields #[rawInt (a + (i : Int)),rawInt (b - a - (i : Int)),rawInt 1],slots := #[] }
theorem Iter.range {I : Addr} {hb : Heap} {a b : Int} {x : Str} {px : Pos} (hh : A.handled = none) (hab : a ≤ b) : Iter prog w A I hb (b - a).toNat (fun i v => ∃ t,v = .int (a + (i : Int)) t) (fun i o=>o = ritO a b i) (.Name x px) where
 item:=fun i h o hi sb g st s es=>by
  subst es st
  have hit : IsRangeIter s.heap I (a + (i : Int)) (b - a - (i : Int)) 1:=g
  refine wpAny_pyNext_range_item hit (by omega) fun h' hit' hs'=>⟨h',_,_,_,rfl,⟨_,rfl⟩,Sub.same hs',hit', ?_⟩
  have e1 : a + ((i + 1 : Nat) : Int) = a + (i : Int) + 1:=by omega
  have e2 : b - a - ((i + 1 : Nat) : Int) = b - a - (i : Int) - 1:=by omega
  rw [ritO,e1,e2]
 done:=fun h o sb g st s es=>by
  subst es st
  have hit : IsRangeIter s.heap I (a + (((b - a).toNat : Nat) : Int)) (b - a - (((b - a).toNat : Nat) : Int)) 1:=g
  exact wpAny_pyNext_range_end hh hit (by omega) fun h' he=>⟨h',s.toks,rfl,Sub.ext he⟩
 go:=fun zz zz zz zz zz zz zz=>T.eq rfl (T.pure rfl)
 self:=fun h o sb g st s es=>by
  subst es st
  refine (Walks.range (prog:=prog) (w:=w) hh I a 1 (b - a).toNat).self 0 s _ _ ?_ ⟨s.heap,s.toks,rfl,rfl⟩
  show s.heap.get? I = _
  rw [g]
  have e2 : ((b - a).toNat : Int) - ((0 : Nat) : Int) = b - a - ((0 : Nat) : Int):=by omega
  have e1 : a + ((0 : Nat) : Int) * 1 = a + ((0 : Nat) : Int):=by omega
  rw [ritO,e1,e2]
noncomputable def IsCel (o : Obj) (v : Option Value) : Prop:=o.data = .cell v
theorem t_loadCell {x : Str} {c : Addr} {o : Obj} {v : Value} {Q : Value → Heap → Prop} (e : EnvOk env) (hk : env.kindOf x = some .cell) (hc : env.cells.lookup x = some c) (ho : h.get? c = some o) (hv : IsCel o (some v)) (q : Q v h) : T prog w A (loadName env x) h Q:=fun s es=>by
 subst es
 exact wpAny_loadName_cell e.kind hk hc ⟨o,ho,hv⟩ ⟨s.heap,s.toks,q⟩
theorem t_NameC {x : Str} {pos : Pos} {c : Addr} {o : Obj} {v : Value} {Q : Value → Heap → Prop} (e : EnvOk env) (hk : env.kindOf x = some .cell) (hc : env.cells.lookup x = some c) (ho : h.get? c = some o) (hv : IsCel o (some v)) (q : Q v h) (hd : (x == ("__debug__" : Str)) = false) : T prog w A (eval (.Name x pos) env) h Q :=
 fun s es=>wpAny_Name (t_loadCell e hk hc ho hv q s es) hd
theorem t_storeCell {x : Str} {c : Addr} {o : Obj} {v₀ : Option Value} {v : Value} {Q : Unit → Heap → Prop} (e : EnvOk env) (hk : env.kindOf x = some .cell) (hc : env.cells.lookup x = some c) (ho : h.get? c = some o) (hv : IsCel o v₀) (q : ∀ h' o',Sub [c] h h' → h'.get? c = some o' → IsCel o' (some v) → Q () h') : T prog w A (storeName env x v) h Q:=fun s es=>by
 subst es
 refine wpAny_storeName_cell e.kind hk hc ⟨o,ho,hv⟩ fun h' hc' hs' => ?_
 obtain ⟨o',g',d'⟩:=hc'
 exact ⟨h',s.toks,q h' o' (Sub.same hs') g' d'⟩
structure FnOkC (K : Frag) (f : Addr) (fd : FuncData) (body : List Stmt) : Prop where
 lk : ∃ o,K.lookup f = some o ∧ o.data = .func fd
 cd : codeIn K fd.code fd.qualname = true
 body : fd.body = .stmts body
 clo : fd.closure = []
 co : fd.scope.isCoroutine = false
 gen : fd.scope.isGenerator = false
 kind : fd.scope.kind = .function
 glob : fd.globals = mainGlobals
 blt : fd.builtins = builtinsNs
theorem FnOkC.ok {f : Addr} {fd : FuncData} {body : List Stmt} (F : FnOkC K f fd body) (L : Addr) : EnvOk (callEnvC fd L f):=⟨F.kind,F.glob,F.blt,by
 unfold interactive; simp [callEnvC,newEnv,F.kind]⟩
end
end Mine
end
section
open PySem PySem.W PyProof.Rows PySem.Calls PySem.SeqAt
namespace Mine
section
variable {prog : Program} {w : World} {A : Around} {h h' h₀ h₁ : Heap} {env cenv : Env} {D : List Addr} {m : Str → Option Value} {l lo : List (Addr × Obj)} {K : Frag}
theorem t_part0 {Q : Value → Heap → Prop} (q : Q .none h) : T prog w A (evalPart none env) h Q:=fun s es=>wpAny_pure (.here es q)
theorem t_addLists {a b : Addr} {vs ws : List Value} {Q : Value → Heap → Prop} (hl : h.IsList a vs.toArray) (hb : h.IsList b ws.toArray) (hsz : vs.length + ws.length ≤ sizeLine)
  (q : ∀ r h' ob,Sub [] h h' → h.get? r = none → h'.get? r = some ob → IsLst ob (vs ++ ws) → Q (.ref r) h') : T prog w A (binaryOp .Add (.ref a) (.ref b)) h Q:=fun s es=>by
 subst es
 obtain ⟨⟨cls,dd,data,sl⟩,ho,hc,n,hd⟩:=id hl
 obtain ⟨⟨cls2,dd2,data2,sl2⟩,ho2,hc2,n2,hd2⟩:=id hb
 simp only at hc hd hc2 hd2
 subst hc hd hc2 hd2
 have e : vs.toArray ++ ws.toArray = (vs ++ ws).toArray:=by simp
 refine concat_meets ⟨_,ho,rfl⟩ ⟨_,ho2,rfl⟩ noFill_list_add seq_list_add PySem.F.slot_list_add PySem.F.entry_list_add (PySem.F.args_list_add_2 _ _) (list_addW a b vs.toArray ws.toArray n n2 dd dd2 sl sl2 (by simpa using hsz)) ⟨ho,ho2, ?_⟩
 rw [e]
 exact ⟨_,s.toks,q _ _ _ (Sub.push _ _) (get_size_none _) (get_push_self _ _) ⟨0,rfl⟩⟩
end
end Mine
end
section
namespace Mine
section
variable {prog : Program} {w : World} {A : Around} {h h' h₀ h₁ : Heap} {env cenv : Env} {D : List Addr} {m : Str → Option Value} {l lo : List (Addr × Obj)} {K : Frag}
theorem T.fdiv {a b : Int} {t u : Tok} {Q : Value → Heap → Prop} (hb : b ≠ 0) (hs : b.natAbs < 1073741824) (q : ∀ t,Q (.int (a.fdiv b) t) h) : T prog w A (binaryOp .FloorDiv (.int a t) (.int b u)) h Q:=fun s es=>by subst es; exact PyProof.Rows.floordiv_int hb ⟨_,_,q _⟩ (.inl (PyProof.noPylong_small hs))
end
end Mine
end
section
namespace Mine
theorem setGen_toks (s : Shared) (g : Nat) (x : GenState) : (s.setGen g x).toks = s.toks:=rfl
theorem Runs.toks {M : Model} {Γ : Ctx} {p : Pos} {t : Sem Fin} {fs : List Frame} {s s' : Shared} {e : End} (x : Runs M Γ p t fs s e s') : s.toks ≤ s'.toks:=by
 induction x <;> (try simp only [setGen_toks] at *) <;> omega
theorem wakes_toks {M : Model} {Γ : Ctx} {p : Pos} {g : Nat} {r : Resume} {s s' : Shared} {res : GenResult} (x : Wakes M Γ p g r s res s') : s.toks ≤ s'.toks:=by
 unfold Wakes at x
 repeat' split at x
 all_goals first
  | exact x.elim
  | (obtain ⟨e₁,s₁,h1,_,_,rfl⟩:=x; have:=Runs.toks h1; simpa only [setGen_toks] using this)
  | (obtain ⟨_,rfl⟩:=x; exact Nat.le_refl _)
theorem wp_toks {α : Type} {M : Model} {Γ : Ctx} (t : Sem α) : ∀ {Q : α → Pos → Shared → Prop} {E : Value → Pos → Shared → Prop} {p : Pos} {s : Shared},Sem.wp M Γ t Q E p s → Sem.wp M Γ t (fun a p' s'=>Q a p' s' ∧ s.toks ≤ s'.toks) E p s:=by
 have key : ∀ (t : Sem α) {Q : α → Pos → Shared → Prop} {E : Value → Pos → Shared → Prop} {p : Pos} {s : Shared} (n : Nat),n ≤ s.toks → Sem.wp M Γ t Q E p s → Sem.wp M Γ t (fun a p' s'=>Q a p' s' ∧ n ≤ s'.toks) E p s:=by
  intro t
  induction t with
  | pure a=>intro Q E p s n hn h; rw [Sem.wp] at h ⊢; exact ⟨h,hn⟩
  | raise e=>intro Q E p s n hn h; rw [Sem.wp] at h ⊢; exact h
  | unsupported _=>intro Q E p s n hn h; rw [Sem.wp] at h; exact h.elim
  | finish _=>intro Q E p s n hn h; rw [Sem.wp] at h; exact h.elim
  | rule _ k ih=>intro Q E p s n hn h; rw [Sem.wp] at h ⊢; exact ih _ n hn h
  | «at» _ k ih=>intro Q E p s n hn h; rw [Sem.wp] at h ⊢; exact ih _ n hn h
  | load a _ k ih=>intro Q E p s n hn h; rw [Sem.wp] at h ⊢; obtain ⟨o,h1,h2⟩:=h; exact ⟨o,h1,ih _ n hn h2⟩
  | update a _ f k ih=>intro Q E p s n hn h; rw [Sem.wp] at h ⊢; exact ⟨h.1,ih _ n hn h.2⟩
  | loadIfAlive a k ih=>intro Q E p s n hn h; rw [Sem.wp] at h ⊢; exact ih _ n hn h
  | point _ k ih=>intro Q E p s n hn h; rw [Sem.wp] at h ⊢; exact ih _ n hn h
  | register _ _=>intro Q E p s n hn h; rw [Sem.wp] at h; exact h.elim
  | alloc o k ih=>intro Q E p s n hn h; rw [Sem.wp] at h ⊢; exact ih _ n hn h
  | fresh k ih=>intro Q E p s n hn h; rw [Sem.wp] at h ⊢; exact ih _ n (Nat.le_succ_of_le hn) h
  | ask k ih=>intro Q E p s n hn h; rw [Sem.wp] at h ⊢; exact ih _ n hn h
  | choose src m k ih=>intro Q E p s n hn h; rw [Sem.wp] at h ⊢; exact ⟨h.1,ih _ n hn h.2⟩
  | os q _ k ih=>intro Q E p s n hn h; rw [Sem.wp] at h ⊢; exact ih _ n hn h
  | call c hd _ _ k ih =>
   intro Q E p s n hn h; rw [Sem.wp] at h ⊢
   obtain ⟨r,s',h1,h2⟩:=h
   exact ⟨r,s',h1,ih _ n (Nat.le_trans hn (Runs.toks h1)) h2⟩
  | handled own k ih=>intro Q E p s n hn h; rw [Sem.wp] at h ⊢; exact ih _ n hn h
  | genState g k ih=>intro Q E p s n hn h; rw [Sem.wp] at h ⊢; obtain ⟨o,h1,h2⟩:=h; exact ⟨o,h1,ih _ n hn h2⟩
  | newGen c k ih=>intro Q E p s n hn h; rw [Sem.wp] at h ⊢; exact ih _ n hn h
  | resume g r _ k ih =>
   intro Q E p s n hn h; rw [Sem.wp] at h ⊢
   obtain ⟨res,s',h1,h2⟩:=h
   exact ⟨res,s',h1,ih _ n (Nat.le_trans hn (wakes_toks h1)) h2⟩
  | yield _ _ _ _=>intro Q E p s n hn h; rw [Sem.wp] at h; exact h.elim
  | stack k ih=>intro Q E p s n hn h; rw [Sem.wp] at h ⊢; exact ih _ n hn h
  | fork _ _=>intro Q E p s n hn h; rw [Sem.wp] at h; exact h.elim
  | thread k ih=>intro Q E p s n hn h; rw [Sem.wp] at h ⊢; exact ih _ n hn h
  | await _ _ _ _=>intro Q E p s n hn h; rw [Sem.wp] at h; exact h.elim
 intro Q E p s h
 exact key t s.toks (Nat.le_refl _) h
theorem wpAny_toks {α : Type} {M : Model} {A : Around} {t : Sem α} {Q : α → Shared → Prop} {E : Value → Shared → Prop} {s : Shared} (x : wpAny M A t Q E s) : wpAny M A t (fun a s'=>Q a s' ∧ s.toks ≤ s'.toks) E s:=fun Γ p hΓ=>wp_toks t (x Γ p hΓ)
theorem codeAny_toks {M : Model} {A : Around} {c : Code} {R : Result → Shared → Prop} {s : Shared} (x : codeAny M A c R s) : codeAny M A c (fun r s'=>R r s' ∧ s.toks ≤ s'.toks) s:=fun Γ p h1 h2=>by
 obtain ⟨r,s',h3,h4⟩:=x Γ p h1 h2
 exact ⟨r,s',h3,h4,Runs.toks h3⟩
section
variable {prog : Program} {w : World} {A : Around} {α β : Type} {h h' h₀ h₁ : Heap} {env cenv : Env} {D : List Addr} {m : Str → Option Value} {l : List (Addr × Obj)}
noncomputable abbrev GD:=Array GenState × Drawn
structure Made (lo tk : Nat) (gs : GD) : Prop where
 le : lo ≤ tk
 bare : AllBare gs.1
theorem Made.up {lo tk tk' : Nat} {gs : GD} (x : Made lo tk gs) (h : tk ≤ tk') : Made lo tk' gs:=⟨Nat.le_trans x.le h,x.bare⟩
inductive Po {α : Type} (s : Shared) (Q : α → Heap → Prop) (a : α) : Shared → Prop
 | mk (h' : Heap) (tk : Nat) (gs : GD) : Made 1 tk gs → Q a h' → Po s Q a { s with heap:=h',toks:=tk,gens:=gs.1,drawn:=gs.2 }
inductive PoC (s : Shared) (Q : Value → Heap → Prop) : Result → Shared → Prop
 | mk (v : Value) (h' : Heap) (tk : Nat) (gs : GD) : Made 1 tk gs → Q v h' → PoC s Q (.ok (.ret v)) { s with heap:=h',toks:=tk,gens:=gs.1,drawn:=gs.2 }
inductive PoF (s : Shared) (Q : Flow → Heap → Prop) : Result → Shared → Prop
 | mk (f : Flow) (h' : Heap) (tk : Nat) (gs : GD) : Made 1 tk gs → Q f h' → PoF s Q (.ok f) { s with heap:=h',toks:=tk,gens:=gs.1,drawn:=gs.2 }
inductive PoL (s : Shared) (Q : Heap → Prop) : Result → Shared → Prop
 | mk (h' : Heap) (tk : Nat) (gs : GD) : Made 1 tk gs → Q h' → PoL s Q (.ok .next) { s with heap:=h',toks:=tk,gens:=gs.1,drawn:=gs.2 }
theorem Po.here {s : Shared} {Q : α → Heap → Prop} {a : α} (e : s.heap = h) (hp : Made 1 s.toks (s.gens,s.drawn)) (q : Q a h) : Po s Q a s := .mk s.heap s.toks (s.gens,s.drawn) hp (e ▸ q)
noncomputable def TP (prog : Program) (w : World) (A : Around) {α : Type} (t : Sem α) (h : Heap) (Q : α → Heap → Prop) : Prop :=
 ∀ s : Shared,s.heap = h → Made 1 s.toks (s.gens,s.drawn) → wpAny (model prog w) A t (Po s Q) (fun zz zz=>False) s
noncomputable def TPL (lo : Nat) (prog : Program) (w : World) (A : Around) {α : Type} (t : Sem α) (h : Heap) (Q : α → Heap → Prop) : Prop :=
 ∀ s : Shared,s.heap = h → Made lo s.toks (s.gens,s.drawn) → wpAny (model prog w) A t (Po s Q) (fun zz zz=>False) s
noncomputable def TCP (prog : Program) (w : World) (A : Around) (c : Code) (h : Heap) (Q : Value → Heap → Prop) : Prop :=
 ∀ s : Shared,s.heap = h → Made 1 s.toks (s.gens,s.drawn) → codeAny (model prog w) A c (PoC s Q) s
noncomputable def TFP (prog : Program) (w : World) (A : Around) (c : Code) (h : Heap) (Q : Flow → Heap → Prop) : Prop :=
 ∀ s : Shared,s.heap = h → Made 1 s.toks (s.gens,s.drawn) → codeAny (model prog w) A c (PoF s Q) s
section
variable {lo : Nat} {t : Sem α} {Q : α → Heap → Prop} {Q' : α → Shared → Prop} {E' : Value → Shared → Prop} {s : Shared} {tk : Nat} {gs : GD}
theorem TPL.el (x : TPL lo prog w A t h Q) (e : s.heap = h) (hp : Made lo s.toks (s.gens,s.drawn)) (k : ∀ a h' tk gs,Made 1 tk gs → Q a h' → Q' a { s with heap:=h',toks:=tk,gens:=gs.1,drawn:=gs.2 }) : wpAny (model prog w) A t Q' E' s :=
 wpAny_mono (x s e hp) (fun zz zz z=>z.casesOn (k _)) fun zz zz z=>z.elim
theorem TP.el (x : TP prog w A t h Q) (e : s.heap = h) (hp : Made 1 s.toks (s.gens,s.drawn)) (k : ∀ a h' tk gs,Made 1 tk gs → Q a h' → Q' a { s with heap:=h',toks:=tk,gens:=gs.1,drawn:=gs.2 }) : wpAny (model prog w) A t Q' E' s:=TPL.el (lo:=1) x e hp k
theorem TP.nx {h' : Heap} (x : TP prog w A t h' Q) (hp : Made 1 tk gs) (k : ∀ a h' tk gs,Made 1 tk gs → Q a h' → Q' a { s with heap:=h',toks:=tk,gens:=gs.1,drawn:=gs.2 }) : wpAny (model prog w) A t Q' E' { s with heap:=h',toks:=tk,gens:=gs.1,drawn:=gs.2 }:=x.el rfl hp k
theorem TP.out {h' : Heap} (x : TP prog w A t h' Q) (hp : Made 1 tk gs) : wpAny (model prog w) A t (Po s Q) E' { s with heap:=h',toks:=tk,gens:=gs.1,drawn:=gs.2 }:=x.nx hp fun zz => .mk
end
theorem TP.of {t : Sem α} {Q : α → Heap → Prop} (x : T prog w A t h Q) : TP prog w A t h Q:=fun s e hp=>wpAny_mono (wpAny_toks (x s e)) (fun zz zz z=>z.1.casesOn (fun h' tk q le => .mk h' tk (s.gens,s.drawn) (hp.up le) q) z.2) fun zz zz z=>z
theorem TP.eq {t t' : Sem α} {Q : α → Heap → Prop} (e : t = t') (x : TP prog w A t' h Q) : TP prog w A t h Q:=e ▸ x
theorem TP.pure {a : α} {Q : α → Heap → Prop} (q : Q a h) : TP prog w A (Pure.pure a) h Q:=TP.of (T.pure q)
theorem TCP.mono {c : Code} {Q Q' : Value → Heap → Prop} (x : TCP prog w A c h Q) (q : ∀ a h',Q a h' → Q' a h') : TCP prog w A c h Q':=fun s e hp =>
 codeAny_mono (x s e hp) (by rintro r s' ⟨v,h',tk,_,hp,y⟩; exact .mk _ _ _ _ hp (q _ _ y))
theorem TP.call {f : Value} {pos : List Value} {kw : List (Str × Value)} {Q : Value → Heap → Prop} (x : TCP prog w A (.call f ⟨pos,kw⟩) h Q) : TP prog w A (call f pos kw) h Q:=fun s e hp =>
 wpAny_call (codeAny_mono (x s e hp) (by rintro r s' ⟨v,h',tk,_,hp,q⟩; exact .mk _ _ _ hp q))
noncomputable def TPArgs (prog : Program) (w : World) (A : Around) (env : Env) : List PySem.Expr → Heap → (List Value → Heap → Prop) → Prop
 | [],h,Q=>Q [] h
 | e :: r,h,Q=>TP prog w A (eval e env) h fun v h₁=>TPArgs prog w A env r h₁ fun vs h₂=>Q (v :: vs) h₂
theorem TP.bind {t : Sem α} {f : α → Sem β} {Q : β → Heap → Prop} (x : TP prog w A t h fun a h'=>TP prog w A (f a) h' Q) : TP prog w A (t >>= f) h Q:=fun s e hp =>
 wpAny_bind (TPL.el x e hp (by
  rintro a h' tk _ hp y
  exact (TP.out y hp)))
theorem TPL.mono {lo : Nat} {t : Sem α} {Q Q' : α → Heap → Prop} (x : TPL lo prog w A t h Q) (q : ∀ a h',Q a h' → Q' a h') : TPL lo prog w A t h Q':=fun s e hp =>
 x.el e hp fun a h' zz zz hp y => .mk _ _ _ hp (q a h' y)
theorem TP.mono {t : Sem α} {Q Q' : α → Heap → Prop} (x : TP prog w A t h Q) (q : ∀ a h',Q a h' → Q' a h') : TP prog w A t h Q':=TPL.mono (lo:=1) x q
theorem TP.holding {vs : List Value} {t : Sem α} {Q : α → Heap → Prop} (x : TP prog w A t h Q) : TP prog w A (holding vs t) h Q:=fun s e hp=>wpAny_holding (x s e hp)
theorem TP.standAt {p : Pos} {Q : Unit → Heap → Prop} (q : Q () h) : TP prog w A (standAt p) h Q:=fun s e hp=>wpAny_standAt (.here e hp q)
theorem TP.execs_nil {Q : Flow → Heap → Prop} (q : Q .next h) : TP prog w A (execs [] env) h Q:=fun s e hp=>wpAny_execs_nil (.here e hp q)
theorem TPL.execs_cons {lo : Nat} {st : Stmt} {rest : List Stmt} {Q : Flow → Heap → Prop} (x : TPL lo prog w A (exec st env) h fun f h'=>match f with | .next=>TP prog w A (execs rest env) h' Q | f=>Q f h') :
  TPL lo prog w A (execs (st :: rest) env) h Q:=fun s e hp=>wpAny_execs_cons (TPL.el x e hp (by
  rintro f h' tk _ hp y
  cases f with
  | next=>exact (TP.out y hp)
  | brk=>exact ⟨_,_,_,hp,y⟩
  | cont=>exact ⟨_,_,_,hp,y⟩
  | ret v=>exact ⟨_,_,_,hp,y⟩))
theorem TP.execs_cons {st : Stmt} {rest : List Stmt} {Q : Flow → Heap → Prop} (x : TP prog w A (exec st env) h fun f h'=>match f with | .next=>TP prog w A (execs rest env) h' Q | f=>Q f h') :
  TP prog w A (execs (st :: rest) env) h Q:=TPL.execs_cons (lo:=1) x
theorem TP.Assign_Name {x : Str} {px pos : Pos} {value : PySem.Expr} {Q : Flow → Heap → Prop} (t : TP prog w A (eval value env) h fun v h'=>TP prog w A (storeName env x v) h' fun zz=>Q .next)
  (hs : swapsWith value (some (.Name x px)) pos.line env = Pure.pure false:=by rfl) : TP prog w A (exec (.Assign [.Name x px] value pos) env) h Q:=fun s e hp =>
 wpAny_Assign_Name (TPL.el t e hp (by
  rintro v h' tk _ hp y
  exact (TP.nx y hp fun zz => .mk))) hs
theorem TP.AugAssign_Name {x : Str} {px pos : Pos} {op : Operator} {value : PySem.Expr} {Q : Flow → Heap → Prop} (t : TP prog w A (loadName env x) h fun old h₁=>TP prog w A (eval value env) h₁ fun v h₂=>TP prog w A (inplaceOp op old v) h₂ fun r h₃=>TP prog w A (storeName env x r) h₃ fun zz=>Q .next) :
  TP prog w A (exec (.AugAssign (.Name x px) op value pos) env) h Q:=fun s e hp =>
 wpAny_AugAssign_Name (TPL.el t e hp (by
  rintro v h' tk _ hp y
  refine TP.nx y hp (by
   rintro b h'' tk' _ hp z
   refine TP.nx z hp (by
    rintro c h3 tk3 _ hp z3
    exact (TP.nx z3 hp fun zz => .mk)))))
theorem TP.If {test : PySem.Expr} {body orelse : List Stmt} {pos : Pos} {Q : Flow → Heap → Prop} (t : TP prog w A (isTrue test env (eval test env)) h fun b h'=>if b = true then TP prog w A (execs body env) h' Q else TP prog w A (execs orelse env) h' Q) :
  TP prog w A (exec (.If test body orelse pos) env) h Q:=fun s e hp =>
 wpAny_If (TPL.el t e hp (by
  rintro b h' tk _ hp y
  cases b with
  | true=>exact (TP.out y hp)
  | false=>exact (TP.out y hp)))
theorem TP.Return {e : PySem.Expr} {pos : Pos} {Q : Flow → Heap → Prop} (t : TP prog w A (eval e env) h fun v=>Q (.ret v)) : TP prog w A (exec (.Return (some e) pos) env) h Q:=fun s e hp=>wpAny_Return_some (t.el e hp fun zz => .mk)
theorem TP.Expr {e : PySem.Expr} {pos : Pos} {Q : Flow → Heap → Prop} (t : TP prog w A (eval e env) h fun v h'=>(∀ a,v ≠ .ref a) ∧ Q .next h') (hi : interactive env = false:=by rfl) (hs : swapsWith e none pos.line env = Pure.pure false:=by rfl) :
  TP prog w A (exec (.Expr e pos) env) h Q:=fun s e hp =>
 wpAny_Expr (TPL.el t e hp (by
  rintro v h' tk _ hp ⟨n,y⟩
  cases v with
  | ref a=>exact n a rfl
  | _=>exact ⟨_,_,_,hp,y⟩)) hi hs
theorem TP.BinOp {a b : PySem.Expr} {op : Operator} {pos : Pos} {Q : Value → Heap → Prop} (t : TP prog w A (eval a env) h fun x h₁=>TP prog w A (eval b env) h₁ fun y h₂=>TP prog w A (binaryOp op x y) h₂ Q) :
  TP prog w A (eval (.BinOp a op b pos) env) h Q:=fun s e hp=>wpAny_BinOp (TPL.el t e hp (by
  rintro v h' tk _ hp y
  refine TP.nx y hp (by
   rintro b h'' tk' _ hp z
   exact (TP.out z hp))))
theorem TP.Compare {a b : PySem.Expr} {op : CmpOp} {pos : Pos} {Q : Value → Heap → Prop} (t : TP prog w A (eval a env) h fun x h₁=>TP prog w A (eval b env) h₁ fun y h₂=>TP prog w A (compareOp op x y) h₂ Q)
  (hm : behindInMarks op b = false:=by with_unfolding_all rfl) : TP prog w A (eval (.Compare a [op] [b] pos) env) h Q:=fun s e hp=>wpAny_Compare1 (TPL.el t e hp (by
  rintro v h' tk _ hp y
  refine TP.nx y hp (by
   rintro b h'' tk' _ hp z
   exact (TP.out z hp)))) hm
theorem TP.isTrue_Compare {a b : PySem.Expr} {op : CmpOp} {pos : Pos} {whole : Sem Value} {Q : Bool → Heap → Prop} (t : TP prog w A (eval a env) h fun x h₁=>TP prog w A (eval b env) h₁ fun y h₂=>TP prog w A (compareOp op x y) h₂ fun c h₃=>TP prog w A (truthy c) h₃ Q)
  (hm : behindInMarks op b = false:=by with_unfolding_all rfl) : TP prog w A (isTrue (.Compare a [op] [b] pos) env whole) h Q:=fun s e hp=>wpAny_isTrue_Compare1 (TPL.el t e hp (by
  rintro v h' tk _ hp y
  refine TP.nx y hp (by
   rintro b h'' tk' _ hp z
   refine TP.nx z hp (by
    rintro b h'' tk' _ hp z
    exact (TP.out z hp))))) hm
theorem TP.For {target iter : PySem.Expr} {body : List Stmt} {pos : Pos} {Q : Flow → Heap → Prop}
  (x : TP prog w A (eval iter env) h fun v h₁=>TP prog w A (pyIter v) h₁ fun it h₂=>TFP prog w A (.forLoop target it body [] env) h₂ Q)
  (hs : ∀ x,foldedSetIterable iter env x = Pure.pure x:=by intro _; rfl) : TP prog w A (exec (.For target iter body [] pos) env) h Q:=fun s e hp =>
 wpAny_For (TPL.el x e hp (by
  rintro v h₁ t₁ _ hp y
  refine TP.nx y hp (by
   rintro it h₂ t₂ _ hp z
   exact codeAny_mono (z _ rfl hp) (by rintro r s₃ ⟨f,h₃,t₃,_,hp,q⟩; exact ⟨h₃,t₃,_,hp,q⟩)))) hs
theorem TFP.forLoop {target : PySem.Expr} {it : Value} {body : List Stmt} {Q : Flow → Heap → Prop} (I : Nat → Heap → Prop)
  (turn : ∀ n h,I n h → TP prog w A (pyNext it) h fun r h₁=>match r with
   | none=>Q .next h₁
   | some v=>TP prog w A (letOwnedTupleGo target it v) h₁ fun zz h₁=>TP prog w A (assign target env v) h₁ fun zz h₂=>TP prog w A (execs body env) h₂ fun f h₃=>match f with
     | .next | .cont => ∃ m,m < n ∧ I m h₃
     | .brk=>Q .next h₃
     | .ret v=>Q (.ret v) h₃)
  (n : Nat) (hI : I n h) : TFP prog w A (.forLoop target it body [] env) h Q:=fun s e hp=>by
 subst e
 refine codeAny_forLoop_any (fun n=>Po s (fun (_ : Unit)=>I n) ()) ?_ n ⟨s.heap,s.toks,_,hp,hI⟩
 rintro n s' ⟨h',tk,_,hp,hI⟩
 refine TP.nx (turn n h' hI) hp (by
  rintro r h₁ t₁ _ hp y
  cases r with
  | none=>exact wpAny_execs_nil ⟨_,_,_,_,hp,y⟩
  | some v =>
   refine TP.nx y hp (by
    rintro _ h₁ t₁ _ hp y
    refine TP.nx y hp (by
     rintro _ h₂ t₂ _ hp z
     refine TP.nx z hp (by
      rintro f h₃ t₃ _ hp q
      cases f with
      | next=>exact q.imp fun k x=>⟨x.1,h₃,t₃,_,hp,x.2⟩
      | cont=>exact q.imp fun k x=>⟨x.1,h₃,t₃,_,hp,x.2⟩
      | brk=>exact ⟨_,_,_,_,hp,q⟩
      | ret v=>exact ⟨_,_,_,_,hp,q⟩))))
theorem TPArgs.mono : ∀ {es : List PySem.Expr} {h : Heap} {Q Q' : List Value → Heap → Prop},TPArgs prog w A env es h Q → (∀ vs h,Q vs h → Q' vs h) → TPArgs prog w A env es h Q'
 | [],_,_,_,x,q=>q _ _ x
 | _ :: _,_,_,_,x,q=>TP.mono x fun zz zz y=>TPArgs.mono y fun zz zz z=>q _ _ z
theorem TPArgs.wp (hs : ∀ e ∈ es,∀ v p,e ≠ .Starred v p) {pos : Pos} {Q : List Value → Heap → Prop} (x : TPArgs prog w A env es h Q) : TP prog w A (spliced (backTo pos (starEach es env))) h Q:=by
 induction es generalizing h Q with
 | nil=>intro s e hp; subst e; exact spliced_nil ⟨_,s.toks,_,hp,x⟩
 | cons e r ih =>
  have he : starEach (e :: r) env = (false,eval e env) :: starEach r env:=by
   cases e <;> first | rfl | exact absurd rfl (hs _ (.head _) _ _)
  rw [he]
  intro s es hp
  refine spliced_cons (TPL.el (TP.mono x (fun v h₁ y=>ih (fun e he=>hs e (.tail _ he)) y)) es hp (by
   rintro v h₁ t₁ _ hp y
   exact (TP.nx y hp fun zz => .mk)))
theorem plainStars {pos : Pos} : ∀ {es : List PySem.Expr},noStars es = true → ((backTo pos (starEach es env)).any (·.1) || ([] : List (Option Str × Sem Value)).any (·.1.isNone)) = false:=fun {es} hs=>by
 have : ∀ es : List PySem.Expr,noStars es = true → (backTo pos (starEach es env)).any (·.1) = false:=by
  intro es hs
  induction es with
  | nil=>rfl
  | cons e r ih =>
   have he : starEach (e :: r) env = (false,eval e env) :: starEach r env:=by
    cases e <;> first | rfl | exact absurd rfl (noStars_of hs _ (.head _) _ _)
   rw [he]
   have hr : noStars r = true:=by
    unfold noStars at hs ⊢
    rw [List.all_cons,Bool.and_eq_true] at hs
    exact hs.2
   show (false || (backTo pos (starEach r env)).any (·.1)) = false
   rw [ih hr]; rfl
 rw [this es hs]; rfl
theorem TPL.callWith {lo : Nat} {pos : Pos} {f : Value} {first : List Value} {e₁ : PySem.Expr} {r : List PySem.Expr} {Q : Value → Heap → Prop}
  (x : TPL lo prog w A (eval e₁ env) h fun v h₁=>TPArgs prog w A env r h₁ fun vs h₂=>Keeps prog w f h₂ ∧ TP prog w A (PySem.call f (first ++ v :: vs)) h₂ Q) (hs : noStars (e₁ :: r) = true) :
  TPL lo prog w A (callWith pos f first (backTo pos (starEach (e₁ :: r) env)) []) h Q:=fun s e hp=>by
 refine callWith_of (P:=fun h=>Keeps prog w f h) (plainStars hs) (fun h k=>k) ?_
 have he : starEach (e₁ :: r) env = (false,eval e₁ env) :: starEach r env:=by
  cases e₁ <;> first | rfl | exact absurd rfl (noStars_of hs _ (.head _) _ _)
 rw [he]
 refine evalArgs_plain (spliced_cons (TPL.el x e hp ?_))
 rintro v h₁ t₁ _ hp₁ y
 refine TP.nx (TPArgs.wp (pos:=pos) (fun e he=>noStars_of hs e (.tail _ he)) y) hp₁ ?_
 rintro vs h₂ t₂ _ hp₂ ⟨k,z⟩
 exact ⟨k,(TP.out z hp₂)⟩
theorem TP.callWith {pos : Pos} {f : Value} {first : List Value} {es : List PySem.Expr} {Q : Value → Heap → Prop}
  (x : TPArgs prog w A env es h fun vs h₁=>Keeps prog w f h₁ ∧ TP prog w A (PySem.call f (first ++ vs)) h₁ Q) (hs : noStars es = true) :
  TP prog w A (callWith pos f first (backTo pos (starEach es env)) []) h Q:=by
 cases es with
 | nil =>
  intro s e hp
  refine callWith_of (P:=fun h=>Keeps prog w f h) rfl (fun h k=>k) (evalArgs_nil3 ?_)
  subst e
  exact ⟨x.1,(TP.out x.2 hp)⟩
 | cons e₁ r=>exact TPL.callWith (lo:=1) x hs
theorem TP.Call_Name {x : Str} {p pos : Pos} {es : List PySem.Expr} {Q : Value → Heap → Prop} (t : TP prog w A (eval (.Name x p) env) h fun f h₁=>TP prog w A (PySem.callWith pos f [] (backTo pos (starEach es env)) []) h₁ Q) :
  TP prog w A (eval (.Call (.Name x p) es [] pos) env) h Q:=fun s e hp=>PyProof.Rows.Call_Name rfl (TPL.el t e hp (by
   rintro vs h₁ t₁ _ hp z
   exact (TP.out z hp)))
theorem TP.Call_method {o : PySem.Expr} {name : Str} {apos pos : Pos} {es : List PySem.Expr} {pl : Sem Bool} {Q : Value → Heap → Prop}
  (t : TP prog w A (eval o env) h fun ov h₁=>TP prog w A (getMethod ov name pl) h₁ fun fx h₂=>TP prog w A (PySem.callWith pos fx.1 fx.2 (backTo pos (starEach es env)) []) h₂ Q)
  (he : eval (.Call (.Attribute o name apos) es [] pos) env = (do
   let ov ← eval o env
   PySem.standAt apos.atName
   let (f,first) ← PySem.holding [ov] (getMethod ov name pl)
   PySem.callWith pos f first (backTo pos (starEach es env)) (backToKw pos (keywordEach [] env))):=by rfl) :
  TP prog w A (eval (.Call (.Attribute o name apos) es [] pos) env) h Q:=fun s e hp=>methodCall_KW (pl:=pl) (TPL.el t e hp (by
   rintro ov h₁ t₁ _ hp z
   exact TP.nx z hp (by
    rintro fx h₂ t₂ _ hp z
    exact (TP.out z hp)))) he
theorem TP.Attribute {o : PySem.Expr} {name : Str} {pos : Pos} {Q : Value → Heap → Prop} (t : TP prog w A (eval o env) h fun ov h₁=>TP prog w A (getAttr ov name true) h₁ Q)
  (he : eval (.Attribute o name pos) env = (do
   let ov ← eval o env
   PySem.standAt pos.atName
   let r ← PySem.holding [ov] (getAttr ov name true)
   letTemporaryGo o ov r
   Pure.pure r):=by with_unfolding_all rfl) : TP prog w A (eval (.Attribute o name pos) env) h Q:=fun s e hp=>Attribute_any_ (TPL.el t e hp (by
   rintro ov h₁ t₁ _ hp z
   exact (TP.out z hp))) he
theorem p_List {elts : List PySem.Expr} {pos : Pos} {Q : Value → Heap → Prop} (x : TPArgs prog w A env elts h fun vs h₁=>vs.length ≤ sizeLine ∧ ∀ a h' o,Sub [] h₁ h' → h₁.get? a = none → h'.get? a = some o → IsLst o vs → Q (.ref a) h') (hs : noStars elts = true) :
  TP prog w A (eval (.List elts pos) env) h Q:=fun s es hp=>List_ (TPL.el (TPArgs.wp (noStars_of hs) x) es hp (by
   rintro vs h₁ t₁ _ hp ⟨hsz,q⟩
   exact wpAny_newObj_type (dict:=none) ⟨_,_,_,hp,q _ _ _ (Sub.push _ _) (get_size_none _) (get_push_self _ _) ⟨0,rfl⟩⟩ (by show vs.toArray.size ≤ sizeLine; simpa using hsz)))
theorem p_Tuple {elts : List PySem.Expr} {k : Nat} {pos : Pos} {Q : Value → Heap → Prop} (x : TPArgs prog w A env elts h fun vs h₁=>vs.length ≤ sizeLine ∧ ∀ a h' o,Sub [] h₁ h' → h₁.get? a = none → h'.get? a = some o → IsTupO o vs → Q (.ref a) h') (hs : noStars elts = true) :
  TP prog w A (eval (.Tuple elts k pos) env) h Q:=fun s es hp=>Tuple_ (TPL.el (TPArgs.wp (noStars_of hs) x) es hp (by
   rintro vs h₁ t₁ _ hp ⟨hsz,q⟩
   exact wpAny_newObj_type (dict:=none) ⟨_,_,_,hp,q _ _ _ (Sub.push _ _) (get_size_none _) (get_push_self _ _) ⟨0,rfl⟩⟩ (by show vs.toArray.size ≤ sizeLine; simpa using hsz)))
theorem p_isTrue_plain {e : PySem.Expr} {whole : Sem Value} {Q : Bool → Heap → Prop} (t : TP prog w A whole h fun v h₁=>TP prog w A (truthy v) h₁ Q) (he : isTrue e env whole = (do let v ← whole; PySem.standAt e.pos; PySem.holding [v] (truthy v)):=by rfl) : TP prog w A (isTrue e env whole) h Q :=
 TP.eq he (TP.bind (t.mono fun v h₁ x=>TP.bind (TP.standAt (TP.holding x))))
theorem p_isTrue_and {x : PySem.Expr} {rest : List PySem.Expr} {pos : Pos} {whole : Sem Value} {Q : Bool → Heap → Prop} (t : TP prog w A (isTrue x env (eval x env)) h fun c h₁=>if c = true then TP prog w A (isTrue (.BoolOp .And rest pos) env whole) h₁ Q else Q false h₁) :
  TP prog w A (isTrue (.BoolOp .And (x :: rest) pos) env whole) h Q:=fun s es hp=>isTrue_and (TPL.el t es hp (by
   rintro c h₁ t₁ _ hp z
   cases c with
   | true=>exact (TP.out z hp)
   | false=>exact ⟨_,_,_,hp,z⟩))
theorem p_isTrue_and0 {pos : Pos} {whole : Sem Value} {Q : Bool → Heap → Prop} (q : Q true h) : TP prog w A (isTrue (.BoolOp .And [] pos) env whole) h Q:=fun s es hp=>isTrue_and_nil (.here es hp q)
theorem p_isTrue_or {x : PySem.Expr} {rest : List PySem.Expr} {pos : Pos} {whole : Sem Value} {Q : Bool → Heap → Prop} (t : TP prog w A (isTrue x env (eval x env)) h fun c h₁=>if c = true then Q true h₁ else TP prog w A (isTrue (.BoolOp .Or rest pos) env whole) h₁ Q) :
  TP prog w A (isTrue (.BoolOp .Or (x :: rest) pos) env whole) h Q:=fun s es hp=>isTrue_or (TPL.el t es hp (by
   rintro c h₁ t₁ _ hp z
   cases c with
   | false=>exact (TP.out z hp)
   | true=>exact ⟨_,_,_,hp,z⟩))
theorem p_isTrue_or0 {pos : Pos} {whole : Sem Value} {Q : Bool → Heap → Prop} (q : Q false h) : TP prog w A (isTrue (.BoolOp .Or [] pos) env whole) h Q:=fun s es hp=>isTrue_or_nil (.here es hp q)
theorem p_IfExp {test body orelse : PySem.Expr} {pos : Pos} {Q : Value → Heap → Prop} (t : TP prog w A (isTrue test env (eval test env)) h fun c h₁=>if c = true then TP prog w A (eval body env) h₁ Q else TP prog w A (eval orelse env) h₁ Q) : TP prog w A (eval (.IfExp test body orelse pos) env) h Q:=fun s es hp =>
 IfExp_ (TPL.el t es hp (by
  rintro c h₁ t₁ _ hp z
  cases c with
  | true=>exact (TP.out z hp)
  | false=>exact (TP.out z hp)))
theorem p_SubListG {value idx : PySem.Expr} {pos : Pos} {Q : Value → Heap → Prop}
  (t : TP prog w A (eval value env) h fun o h₁=>TP prog w A (eval idx env) h₁ fun i h₂ => ∃ a vs k u x,o = .ref a ∧ i = .int k u ∧ h₂.IsList a (List.toArray vs) ∧ 0 ≤ k ∧ k < 2 ^ 63 ∧ vs[k.toNat]? = some x ∧ Q x h₂)
  (hsub : ∀ o i,subscripted idx false o i = operate [o,i] (getItem o i):=by intro _ _; rfl) : TP prog w A (eval (.Subscript value idx pos) env) h Q:=fun s es hp=>by
 rw [eval_Subscript]
 refine wpAny_bind (wpAny_mono (t s es hp) (fun o s₁ h₁ => ?_) fun zz zz x=>x)
 obtain ⟨g₁,t₁,gs₁,hp,h₁⟩:=h₁
 refine wpAny_bind (wpAny_holding (wpAny_mono (h₁ _ rfl hp) (fun i s₂ h₂=>wpAny_bind (wpAny_standAt ?_)) fun zz zz x=>x))
 obtain ⟨g₂,t₂,gs₂,hp,a,vs,k,u,x,rfl,rfl,hl,h0,hk,hx,q⟩:=h₂
 have hT : (⟨g₂,gs₂.1,gs₂.2,t₂,s.os⟩ : Shared).TypeIs (.ref a) "list" := hl.typeIs
 refine wpAny_bind ?_
 rw [getitemInPython_of_ne hT.not_modules]
 refine wpAny_bind (wpAny_specialOf hT PySem.F.slot_list_getitem.lookup ?_)
 have fin : wpAny (model prog w) A (operate [.ref a,.int k u] (getItem (.ref a) (.int k u))) (fun r s₃=>wpAny (model prog w) A (letTemporaryGo value (.ref a) r >>= fun zz=>pure r) (Po s Q) (fun zz zz=>False) s₃) (fun zz zz=>False) ⟨g₂,gs₂.1,gs₂.2,t₂,s.os⟩ :=
  wpAny_operating (getItem_listL hl h0 hk hx (wpAny_bind (wpAny_letTemporaryGo (wpAny_pure ⟨_,_,_,hp,q⟩))))
 have fin':=wpAny_bind fin
 rw [← hsub] at fin'
 exact wpAny_pure fin'
theorem p_tests0 {Q : Bool → Heap → Prop} (q : Q true h) : TP prog w A (compTests env []) h Q:=fun s es hp=>wpAny_tests_nil (.here es hp q)
theorem p_tests1 {c : PySem.Expr} {Q : Bool → Heap → Prop} (t : TP prog w A (isTrue c env (eval c env)) h Q) : TP prog w A (compTests env [c]) h Q:=fun s es hp=>wpAny_tests_one (t s es hp)
noncomputable def CompBodyP (prog : Program) (w : World) (A : Around) (cenv : Env) (target : PySem.Expr) (ifs : List PySem.Expr) (elt : PySem.Expr) (acc : Value) (v : Value) (h : Heap) (R : Heap → Prop) : Prop :=
 TP prog w A (assign target cenv v) h fun zz h₂=>TP prog w A (compTests cenv ifs) h₂ fun ok h₃=>if ok = true then TP prog w A (eval elt cenv) h₃ fun x h₄=>TP prog w A (call (.builtin "list.append") [acc,x]) h₄ fun zz h₅=>R h₅ else R h₃
noncomputable def TLP (prog : Program) (w : World) (A : Around) (c : Code) (h : Heap) (Q : Heap → Prop) : Prop :=
 ∀ s : Shared,s.heap = h → Made 1 s.toks (s.gens,s.drawn) → codeAny (model prog w) A c (PoL s Q) s
theorem tlp_loop {elt target iter : PySem.Expr} {ifs : List PySem.Expr} {scope : Scope} {pos : Pos} {it acc : Value} {Q : Heap → Prop} (I : Nat → Heap → Prop)
  (turn : ∀ n h,I n h → TP prog w A (pyNext it) h fun r h₁=>match r with
   | none=>Q h₁
   | some v=>TP prog w A (letOwnedTupleGo target it v) h₁ fun zz h₂=>CompBodyP prog w A cenv target ifs elt acc v h₂ fun h₃ => ∃ m,m < n ∧ I m h₃)
  (n : Nat) (hI : I n h) : TLP prog w A (.compLoop (.ListComp elt [⟨target,iter,ifs,0⟩] scope pos) 0 it acc cenv) h Q:=fun s es hp=>by
 subst es
 refine codeAny_loop rfl (fun n=>Po s (fun (_ : Unit)=>I n) ()) ?_ n ⟨s.heap,s.toks,_,hp,hI⟩
 rintro n s' ⟨h',tk,_,hp,hI⟩
 show wpAny _ A ((compTurn (.ListComp elt [⟨target,iter,ifs,0⟩] scope pos) 0 it acc cenv).onRaise (fun x=>do noteFrame x cenv; theTreesLotGoes x)) _ _ _
 refine wpAny_noted ?_
 rw [compTurn_list]
 refine wpAny_bind (wpAny_standAt (wpAny_bind (TP.nx (turn n h' hI) hp ?_)))
 rintro r h₁ t₁ _ hp z
 cases r with
 | none=>exact wpAny_pure ⟨_,_,_,hp,z⟩
 | some v =>
  refine wpAny_bind (TP.nx z hp ?_)
  rintro _ h₂ t₂ _ hp z
  refine wpAny_bind (TP.nx z hp ?_)
  rintro _ h₃ t₃ _ hp z
  refine wpAny_bind (TP.nx z hp ?_)
  rintro ok h₄ t₄ _ hp z
  cases ok with
  | false =>
   obtain ⟨k,hk,z⟩:=z
   exact wpAny_pure ⟨rfl,k,hk,_,_,_,hp,z⟩
  | true =>
   refine wpAny_bind (wpAny_bind (TP.nx z hp ?_))
   rintro y h₅ t₅ _ hp z
   refine wpAny_bind (TP.nx z hp ?_)
   rintro _ h₆ t₆ _ hp ⟨k,hk,z⟩
   exact wpAny_pure (wpAny_pure ⟨rfl,k,hk,_,_,_,hp,z⟩)
variable {elt : PySem.Expr} {scope : Scope} {pos : Pos}
end
end Mine
end
section
namespace Mine
section
variable {prog : Program} {w : World} {A : Around} {h h' h₀ : Heap} {env : Env} {D : List Addr} {L : Addr} {m m' : Str → Option Value} {l l' : List (Addr × Obj)}
variable {K : Type} [DecidableEq K] {knd : KeyKind prog w K}
noncomputable def tupN (ns : List Nat) (sz : Nat) : Obj:={ cls := .type "tuple",dict:=none,data := .seq (ns.map fun (i : Nat)=>rawInt i).toArray sz,slots := #[] }
theorem t_nextDrawn {I a tp : Addr} {o : Obj} {ks : List K} {es : Array (Int × Value)} {ep i p sz : Nat} {t : SetTable} {ns : List Nat} {e : Int × Value} {Q : Option Value → Heap → Prop} (P : SetParts knd o ks es ep t) (ho : h.get? a = some o) (gt : h.get? tp = some (tupN ns sz)) (g : h.get? I = some (sitO (.ref tp) i a es.size ep)) (hp : ns[i]? = some p) (hv : es[p]? = some e)
  (q : ∀ h',Sub [I] h h' → h'.get? I = some (sitO (.ref tp) (i + 1) a es.size ep) → Q (some e.2) h') : T prog w A (pyNext (.ref I)) h Q:=fun s es'=>by
 subst es'
 have hT : s.TypeIs (.ref I) "set_iterator" := ⟨_,g,rfl⟩
 unfold pyNext
 refine wpAny_bind (wpAny_attempt (wpAny_callSpecial?_slot (name:=ofString "__next__") hT slot_sit_next (wpAny_call_entry slot_sit_next hT entry_sit_next ?_ (args_sit_next _))))
 refine wpAny_bind (wpAny_pure ?_)
 dsimp only
 refine wpAny_bind (sit_fields g ?_)
 dsimp only [List.toList_toArray]
 refine wpAny_bind (wpAny_setEntries_of ho P.dt P.fits ?_)
 rw [if_neg (by walk_at "ms")]
 refine wpAny_bind (wpAny_seqItems gt rfl ?_)
 dsimp only
 have e1 : (ns.map fun (i : Nat)=>rawInt (i : Int)).toArray[((i : Nat) : Int).toNat]? = some (.int p 0):=by simp [hp,rawInt]
 rw [e1]
 dsimp only
 unfold setNextDrawn
 refine wpAny_bind (wpAny_bind (wpAny_setState_of ho P.dt P.fits ?_))
 dsimp only
 rw [if_neg (by walk_at "ms")]
 rw [show es[((p : Nat) : Int).toNat]? = some e by simpa using hv]
 obtain ⟨hsh,v⟩:=e
 refine wpAny_pure ?_
 refine wpAny_bind (wpAny_setField_rec g (by walk_at "ms") fun h₁ g₁ s₁ => ?_)
 refine wpAny_pure ⟨v,rfl,wpAny_pure ⟨h₁,s.toks,q h₁ (Sub.same s₁) ?_⟩⟩
 have e : ((i + 1 : Nat) : Int) = (i : Int) + 1:=by omega
 rw [g₁,sitO,e]
 simp [rawInt]
theorem t_endLed {I a : Addr} {o : Obj} {ks : List K} {es : Array (Int × Value)} {ep : Nat} {t : SetTable} {ord : List Value} {f : Nat → Nat} {Q : Option Value → Heap → Prop} (hh : A.handled = none) (P : SetParts knd o ks es ep t) (go : ∀ B,GoesOn prog w B a o es.size ep ord f) (ho : h.get? a = some o) (g : h.get? I = some (sitO (rawInt (f es.size)) es.size a es.size ep)) (hv : ord.length = es.size)
  (q : ∀ h',Sub [I] h h' → Q none h') : T prog w A (pyNext (.ref I)) h Q:=fun s e=>by
 subst e
 have hT : s.TypeIs (.ref I) "set_iterator" := ⟨_,g,rfl⟩
 unfold pyNext
 refine wpAny_bind (wpAny_attempt (wpAny_callSpecial?_slot (name:=ofString "__next__") hT slot_sit_next (wpAny_call_entry slot_sit_next hT entry_sit_next ?_ (args_sit_next _))))
 refine wpAny_bind (wpAny_pure ?_)
 dsimp only
 refine wpAny_bind (sit_fields g ?_)
 dsimp only [List.toList_toArray]
 refine wpAny_bind (wpAny_setEntries_of ho P.dt P.fits ?_)
 rw [if_neg (by walk_at "ms")]
 refine wpAny_bind (go _ s es.size _ _ ho (Nat.le_refl _) ?_)
 rw [List.getElem?_eq_none (by omega)]
 dsimp only [Option.map]
 refine wpAny_bind (wpAny_setField_rec g (by walk_at "ms") fun h₁ g₁ s₁ => ?_)
 refine wpAny_bind ?_
 simp only [newExc,newTuple]
 refine wpAny_bind (wpAny_newObj_type ?_ (by size_fits))
 refine wpAny_bind (m:=firstArgMember _ _) (wpAny_of_eq (a:=Value.none) (by first | rfl | (simp only [firstArgMember]; rfl)) ?_)
 refine wpAny_newObj_type ?_ (by size_fits)
 simp only [raiseNew]
 refine wpAny_bind (wpAny_handled ?_)
 rw [show A.in1.handled = none from hh]
 refine wpAny_bind (wpAny_pure (wpAny_throw ?_))
 refine wpAny_bind (wpAny_isInstance (T := "StopIteration") (b:=true) ⟨_,Heap.get?_push_size _ rfl,rfl⟩ isSubtype_stop ?_)
 exact wpAny_pure ⟨_,s.toks,q _ (Sub.ext ((s₁.extBut.push _).push _))⟩
theorem t_endDrawn {I a tp : Addr} {o : Obj} {ks : List K} {es : Array (Int × Value)} {ep sz : Nat} {t : SetTable} {ns : List Nat} {Q : Option Value → Heap → Prop} (hh : A.handled = none) (P : SetParts knd o ks es ep t) (ho : h.get? a = some o) (gt : h.get? tp = some (tupN ns sz)) (g : h.get? I = some (sitO (.ref tp) es.size a es.size ep)) (hv : ns.length = es.size)
  (q : ∀ h',Sub [I] h h' → Q none h') : T prog w A (pyNext (.ref I)) h Q:=fun s e=>by
 subst e
 have hT : s.TypeIs (.ref I) "set_iterator" := ⟨_,g,rfl⟩
 unfold pyNext
 refine wpAny_bind (wpAny_attempt (wpAny_callSpecial?_slot (name:=ofString "__next__") hT slot_sit_next (wpAny_call_entry slot_sit_next hT entry_sit_next ?_ (args_sit_next _))))
 refine wpAny_bind (wpAny_pure ?_)
 dsimp only
 refine wpAny_bind (sit_fields g ?_)
 dsimp only [List.toList_toArray]
 refine wpAny_bind (wpAny_setEntries_of ho P.dt P.fits ?_)
 rw [if_neg (by walk_at "ms")]
 refine wpAny_bind (wpAny_seqItems gt rfl ?_)
 dsimp only
 have e1 : (ns.map fun (i : Nat)=>rawInt (i : Int)).toArray[((es.size : Nat) : Int).toNat]? = none:=by simp [hv]
 rw [e1]
 dsimp only
 refine wpAny_bind (wpAny_setField_rec g (by walk_at "ms") fun h₁ g₁ s₁ => ?_)
 refine wpAny_bind (wpAny_setField_rec (s:={ s with heap:=h₁ }) g₁ (by walk_at "ms") fun h₂ g₂ s₂ => ?_)
 refine wpAny_bind ?_
 simp only [newExc,newTuple]
 refine wpAny_bind (wpAny_newObj_type ?_ (by size_fits))
 refine wpAny_bind (m:=firstArgMember _ _) (wpAny_of_eq (a:=Value.none) (by first | rfl | (simp only [firstArgMember]; rfl)) ?_)
 refine wpAny_newObj_type ?_ (by size_fits)
 simp only [raiseNew]
 refine wpAny_bind (wpAny_handled ?_)
 rw [show A.in1.handled = none from hh]
 refine wpAny_bind (wpAny_pure (wpAny_throw ?_))
 refine wpAny_bind (wpAny_isInstance (T := "StopIteration") (b:=true) ⟨_,Heap.get?_push_size _ rfl,rfl⟩ isSubtype_stop ?_)
 exact wpAny_pure ⟨_,s.toks,q _ ((Sub.same s₁).trans (Sub.ext ((s₂.extBut.push _).push _)))⟩
inductive SetIt (prog : Program) (w : World) (A : Around) (h : Heap) (a : Addr) (o : Obj) (n : Nat) (I : Addr) (ord : List Value) (ext : List (Addr × Obj)) (St : Nat → Obj → Prop) (oI : Obj) (h' : Heap) : Prop
 | mk (sub : Sub [] h h') (nI : h.get? I = none) (gI : h'.get? I = some oI) (st : St 0 oI) (new : ∀ p ∈ ext,h.get? p.1 = none ∧ h'.get? p.1 = some p.2) (nd : (I :: ext.map (·.1)).Nodup) (walk : ∀ x px,WalkI prog w A I ((a,o) :: ext) n (fun i v zz zz=>ord[i]? = some v) St (.Name x px))
theorem p_iterSet {a : Addr} {o : Obj} {ks : List K} {Q : Value → Heap → Prop} (hh : A.handled = none) (ho : h.get? a = some o) (hS : IsSetK knd o ks)
  (q : ∀ I ord ext St oI h',InOrder knd ks ord → SetIt prog w A h a o ks.length I ord ext St oI h' → Q (.ref I) h') : TP prog w A (pyIter (.ref a)) h Q:=fun s e hp=>by
 subst e
 obtain ⟨es,ep,t,P⟩:=hS
 have hT : s.TypeIs (.ref a) "set" := ⟨o,ho,P.ex.1⟩
 refine wpAny_pyIter_slot hT PySem.F.slot_set_iter (wpAny_call_entry PySem.F.slot_set_iter hT entry_set_iterF ?_ (PySem.F.args_set_iter_1 _))
 unfold Builtin.«frozenset.__iter__» Builtin.Frozenset.slot0
 refine wpAny_bind (wpAny_bind (wpAny_pure (wpAny_pure ?_)))
 unfold Builtin.Frozenset.sizeOf
 refine wpAny_bind (wpAny_bind (wpAny_setEntries_of ho P.dt P.fits (wpAny_pure ?_)))
 unfold setDrawn setsByText
 refine wpAny_bind (wpAny_bind (wpAny_setState_of ho P.dt P.fits ?_))
 dsimp only
 refine wpAny_bind (wpAny_bind (wpAny_askSetting (wpAny_pure ?_)))
 refine wpAny_pure ?_
 show wpAny _ _ (if (!w.params.followText "set-order" && (!t.plain && decide (es.size > 1))) = true then _ else _) _ _ _
 have lenP:=P.len
 by_cases hc : (!w.params.followText "set-order" && (!t.plain && decide (es.size > 1))) = true
 ·rw [if_pos hc]
  refine wpAny_bind (wp_drawOrder es.size _ s (by walk_at "ms") fun ns d hperm => ?_)
  have hnl : ns.length = es.size:=by rw [hperm.length_eq,List.length_range]
  simp only [newTuple]
  refine wpAny_bind (wpAny_newObj_type ?_ ?_)
  ·refine wpAny_bind (wpAny_setEpoch_of (o:=o) (es:=es) (t:=t) (Heap.get?_push_of_some _ ho) P.dt P.fits ?_)
   refine wpAny_bind (wpAny_newObj_type (wpAny_pure ⟨_,rfl, "set_iterator",_,⟨_,Heap.get?_push_size _ rfl,rfl⟩,slot_sit_next.lookup, ?_⟩) (by simp only [sizeOk,List.size_toArray,List.length_cons,List.length_nil,sizeLine_eq]; omega))
   have neq : (s.heap.push { cls := .type "tuple",dict:=none,data := .seq (ns.map fun (i : Nat)=>rawInt (i : Int)).toArray }).objs.size ≠ s.heap.objs.size:=by rw [Heap.size_push]; omega
   refine ⟨_,_,(s.gens,d),⟨hp.le,hp.bare⟩,q _ (ns.filterMap fun p=>(es[p]?).map (·.2)) [(s.heap.objs.size,tupN ns 0)] (fun i o=>o = sitO (.ref s.heap.objs.size) i a es.size ep) _ _ ?_ (.mk ((Sub.push _ _).trans (Sub.push _ _)) ?_ (get_push_self _ _) rfl ?_ ?_ fun x px => ?_)⟩
   ·have hes : (ns.filterMap fun p=>es[p]?).Perm es.toList:=by
     refine (List.Perm.filterMap _ hperm).trans ?_
     rw [filterMap_getElem?_range]
    have:=P.order hes
    rw [List.map_filterMap] at this
    exact this
   ·exact (by
     cases z : s.heap.get? _ with
     | none=>rfl
     | some o'=>exact absurd (Heap.lt_size z) (by rw [Heap.size_push]; omega))
   ·intro p hp'
    rw [List.mem_singleton] at hp'
    subst hp'
    exact ⟨get_size_none _,Heap.get?_push_of_some _ (get_push_self _ _)⟩
   ·simpa using neq
   ·have hsome : ∀ i,i < es.size → ∃ (p : Nat) (e : Int × Value),ns[i]? = some p ∧ es[p]? = some e:=fun i hi=>by
     have e1 : ns[i]? = some ns[i]:=by simp [hnl,hi]
     have hlt : ns[i] < es.size:=by
      have:=hperm.mem_iff.mp (List.getElem_mem (by omega : i < ns.length))
      simpa using this
     exact ⟨_,es[ns[i]],e1,by simp [hlt]⟩
    have hord : ∀ (i p : Nat) (e : Int × Value),ns[i]? = some p → es[p]? = some e → (ns.filterMap fun p=>(es[p]?).map (·.2))[i]? = some e.2:=fun i p e e1 e2=>by
     have hall : ∀ l : List Nat,(∀ p ∈ l,p < es.size) → l.filterMap (fun p=>(es[p]?).map (·.2)) = l.map fun p=>(es.getD p (0,.none)).2:=by
      intro l hl
      induction l with
      | nil=>rfl
      | cons y l ih =>
       have hy:=hl y (.head _)
       rw [List.filterMap_cons,Array.getElem?_eq_getElem hy]
       simp only [Option.map_some,List.map_cons]
       rw [ih fun p hp=>hl p (.tail _ hp)]
       simp [hy]
     rw [hall ns fun p hp=>by simpa using hperm.mem_iff.mp hp,List.getElem?_map,e1]
     simp only [Option.map_some]
     rw [Array.getD_eq_getD_getElem?,e2]
     rfl
    exact {
     item:=fun i h o hi fx g st=>by
      subst st
      obtain ⟨p,e,e1,e2⟩:=hsome i (by omega)
      refine t_nextDrawn P (fx (a,_) (.head _)) (fx (s.heap.objs.size,tupN ns 0) (.tail _ (.head _))) g e1 e2 fun h' sb g'=>⟨_,rfl,T.eq rfl (T.pure ⟨_,hord i p e e1 e2,sb,g',rfl⟩)⟩
     done:=fun h o fx g st=>by
      subst st
      rw [← lenP] at g
      exact t_endDrawn hh P (fx (a,_) (.head _)) (fx (s.heap.objs.size,tupN ns 0) (.tail _ (.head _))) g hnl fun h' sb=>⟨rfl,sb⟩ }
  ·simp only [sizeOk,List.size_toArray,List.length_map]
   have:=fits_of_scanBound P.small
   omega
 ·rw [if_neg hc]
  refine wpAny_bind (wpAny_pure ?_)
  refine wpAny_bind (wpAny_setEpoch_of ho P.dt P.fits ?_)
  refine wpAny_bind (wpAny_newObj_type (wpAny_pure ⟨_,rfl, "set_iterator",_,⟨_,Heap.get?_push_size _ rfl,rfl⟩,slot_sit_next.lookup, ?_⟩) (by simp only [sizeOk,List.size_toArray,List.length_cons,List.length_nil,sizeLine_eq]; omega))
  have fin : ∀ (ord : List Value) (f : Nat → Nat),f 0 = 0 → ord.length = es.size → (∀ B,GoesOn prog w B a o es.size ep ord f) → InOrder knd ks ord → Q (.ref s.heap.objs.size) (s.heap.push (sitO (rawInt (0 : Nat)) 0 a es.size ep)):=fun ord f f0 hl go io =>
   q _ ord [] (fun i o=>o = sitO (rawInt (f i)) i a es.size ep) _ _ io (.mk (Sub.push _ _) (get_size_none _) (get_push_self _ _) (by rw [f0]) (fun p hp=>by simp at hp) (by walk_at "ms") fun x px=>{
    item:=fun i h o hi fx g st=>by
     subst st
     have hi' : i < es.size:=by omega
     have hv : ord[i]? = some (ord[i]'(by omega)):=by simp [hl,hi']
     exact t_nextLed P go (fx (a,_) (.head _)) g hv hi' fun h' sb g'=>⟨_,rfl,T.eq rfl (T.pure ⟨_,hv,sb,g',rfl⟩)⟩
    done:=fun h o fx g st=>by
     subst st
     rw [← lenP] at g
     exact t_endLed hh P go (fx (a,_) (.head _)) g hl fun h' sb=>⟨rfl,sb⟩ })
  refine ⟨_,s.toks,(s.gens,s.drawn),hp, ?_⟩
  cases hb : w.params.followText "set-order" with
  | true =>
   refine fin _ _ rfl ?_ (fun B=>P.goesText hb) (P.order (pick_perm _ _))
   rw [List.length_map,(pick_perm _ _).length_eq,Array.length_toList]
  | false =>
   rw [hb] at hc
   refine fin _ _ rfl ?_ (fun B=>P.goesLed hb (by simpa using hc)) (P.order (List.Perm.refl _))
   rw [List.length_map,Array.length_toList]
end
end Mine
end
section
namespace Mine
theorem noBool_fn : typeLookup (.type "function") "__bool__" = pure none:=by rw [PySem.typeLookup_type,PySem.builtinLookup_eq_fast]; kernel_rfl!
theorem noLen_fn : typeLookup (.type "function") "__len__" = pure none:=by rw [PySem.typeLookup_type,PySem.builtinLookup_eq_fast]; kernel_rfl!
section
variable {prog : Program} {w : World} {A : Around} {h h' h₀ : Heap} {env : Env} {D : List Addr} {L : Addr} {m m' : Str → Option Value} {l l' : List (Addr × Obj)}
variable {K : Type} [DecidableEq K] {knd : KeyKind prog w K}
theorem TFP.of {c : Code} {Q : Flow → Heap → Prop} (x : TF prog w A c h Q) : TFP prog w A c h Q:=fun s e hp=>codeAny_mono (codeAny_toks (x s e)) (by
 rintro r s' ⟨⟨f,h',tk,q⟩,le⟩
 exact ⟨f,h',tk,(s.gens,s.drawn),hp.up le,q⟩)
theorem t_truthyFn {a : Addr} {o : Obj} {Q : Bool → Heap → Prop} (ho : h.get? a = some o) (hc : o.cls = .type "function") (q : Q true h) : T prog w A (truthy (.ref a)) h Q:=fun s e=>by
 subst e
 have hT : s.TypeIs (.ref a) "function" := ⟨o,ho,hc⟩
 unfold truthy
 refine wpAny_bind (wpAny_callSpecial?_none (name:=ofString "__bool__") hT noBool_fn ?_)
 refine wpAny_bind (wpAny_specialOf (name:=ofString "__len__") hT noLen_fn ?_)
 exact wpAny_pure ⟨s.heap,s.toks,q⟩
inductive WlkI (h₀ : Heap) (D : List Addr) (L I : Addr) (n : Nat) (St : Nat → Obj → Prop) (Inv : Nat → (Str → Option Value) → List (Addr × Obj) → Prop) (k : Nat) (h : Heap) : Prop
 | mk (i : Nat) (m₁ : Str → Option Value) (l₁ : List (Addr × Obj)) (o : Obj) (x1 : k + i = n) (x2 : Inv i m₁ l₁) (x3 : S h₀ D L m₁ (l₁ ++ [(I,o)]) h) (x4 : St i o)
theorem tf_walkI {I : Addr} {fx : List (Addr × Obj)} {n : Nat} {P : Nat → Value → (Addr → Prop) → Heap → Prop} {St : Nat → Obj → Prop} {target : PySem.Expr} {body : List Stmt} {o : Obj} {Q : Flow → Heap → Prop} (W : WalkI prog w A I fx n P St target) (H : S h₀ D env.locals m (l ++ [(I,o)]) h) (st : St 0 o)
  (Inv : Nat → (Str → Option Value) → List (Addr × Obj) → Prop) (hD : ∀ i m l,Inv i m l → ∀ d ∈ D,d ∈ l.map (·.1)) (hfx : ∀ i m l h,Inv i m l → S h₀ D env.locals m l h → ∀ p ∈ fx,h.get? p.1 = some p.2) (h0 : Inv 0 m l)
  (turn : ∀ i v nw m₁ l₁ o h,i < n → P i v nw h → (∀ a,nw a → h₀.get? a = none ∧ a ≠ env.locals ∧ a ∉ (l₁ ++ [(I,o)]).map (·.1)) → Inv i m₁ l₁ → S h₀ D env.locals m₁ (l₁ ++ [(I,o)]) h → T prog w A (assign target env v) h fun zz h₂=>T prog w A (execs body env) h₂ fun f h₃=>match f with
   | .next | .cont => ∃ m₂ l₂,Inv (i + 1) m₂ l₂ ∧ S h₀ D env.locals m₂ (l₂ ++ [(I,o)]) h₃
   | .brk=>Q .next h₃
   | .ret v=>Q (.ret v) h₃)
  (done : ∀ m₁ l₁ h,Inv n m₁ l₁ → S h₀ D env.locals m₁ l₁ h → Q .next h) : TF prog w A (.forLoop target (.ref I) body [] env) h Q:=by
 refine TF.forLoop (WlkI h₀ D env.locals I n St Inv) ?_ n ⟨0,m,l,o,rfl,h0,H,st⟩
 rintro k h ⟨i,m₁,l₁,o,hk,hi,HS,hst⟩
 have HB:=HS.dropEnd (hD _ _ _ hi)
 have fx':=hfx i m₁ l₁ h hi HB
 by_cases hlt : i < n
 ·refine (W.item i h o hlt fx' HS.getEnd hst).mono fun r h₁ z => ?_
  obtain ⟨v,rfl,z⟩:=z
  refine z.mono fun _ h₂ ⟨o₂,hP,sb,g₂,st₂⟩ => ?_
  have H₂:=HS.updEnd sb g₂
  refine (turn i v _ m₁ l₁ o₂ h₂ hlt hP (fun a ha=>by
   obtain ⟨f1,f2,f3⟩:=HS.fresh ha
   exact ⟨f1,f2,by simpa using f3⟩) hi H₂).mono fun zz h₃ z=>z.mono fun f h₄ z => ?_
  have fin : (∃ m₂ l₂,Inv (i + 1) m₂ l₂ ∧ S h₀ D env.locals m₂ (l₂ ++ [(I,o₂)]) h₄) → ∃ k',k' < k ∧ WlkI h₀ D env.locals I n St Inv k' h₄:=fun ⟨m₂,l₂,i₂,H₃⟩=>⟨k - 1,by omega,i + 1,m₂,l₂,o₂,by omega,i₂,H₃,st₂⟩
  cases f with
  | next=>exact fin z
  | cont=>exact fin z
  | brk=>exact z
  | ret v=>exact z
 ·obtain rfl : i = n:=by omega
  refine (W.done h o fx' HS.getEnd hst).mono fun r h₁ z => ?_
  obtain ⟨rfl,sb⟩:=z
  exact done m₁ l₁ h₁ hi (HB.keepBut sb fun b hb=>HS.ownEnd (hD _ _ _ hi) b (by simpa using hb))
structure DicParts (knd : KeyKind prog w K) (o : Obj) (kvs : List (K × Value)) (ep : Nat) : Prop where
 at' : ∀ h : Heap,∀ d,h.get? d = some o → h.DictAt knd d kvs ep
theorem IsDicK.parts {o : Obj} {kvs : List (K × Value)} (hd : IsDicK knd o kvs) : ∃ ep,DicParts knd o kvs ep:=by
 obtain ⟨es,ep,h1,h2,h3⟩:=hd
 exact ⟨ep,⟨fun h d ho=>⟨o,es,ho,h1,h2,h3⟩⟩⟩
theorem walkKeys {I d : Addr} {o : Obj} {kvs : List (K × Value)} {ep : Nat} {x : Str} {px : Pos} (hh : A.handled = none) (P : DicParts knd o kvs ep) : WalkI prog w A I [(d,o)] kvs.length (fun i v zz zz => ∃ k y,kvs[i]? = some (k,y) ∧ knd.is k v = true) (kitS d kvs.length ep) (.Name x px) where
 item:=fun i h oI hi fx g st=>by
  have hx : kvs[i]? = some (kvs[i].1,kvs[i].2):=by simp [hi]
  exact t_nextKey g st (P.at' h d (fx (d,o) (.head _))) hx fun key h' o' hk sb g' st'=>⟨key,rfl,T.eq rfl (T.pure ⟨o',⟨_,_,hx,hk⟩,sb,g',st'⟩)⟩
 done:=fun h oI fx g st=>t_nextKeyEnd hh g st (P.at' h d (fx (d,o) (.head _))) fun h' sb=>⟨rfl,sb⟩
noncomputable def iitS (d : Addr) (n ep : Nat) (i : Nat) (o : Obj) : Prop := ∃ ok ov,o = { cls := .type "dict_itemiterator",dict:=none,data := .fields #[.none,.bool false,.ref d,.int i 0,.int n 0,.int ep 0,ok,ov],slots := #[] }
theorem walkItems {I d : Addr} {o : Obj} {kvs : List (K × Value)} {ep : Nat} {elts : List PySem.Expr} {kk : Nat} {px : Pos} (hh : A.handled = none) (P : DicParts knd o kvs ep) :
  WalkI prog w A I [(d,o)] kvs.length (fun i v nw h => ∃ k y key ta,kvs[i]? = some (k,y) ∧ knd.is k key = true ∧ v = .ref ta ∧ h.IsTuple ta #[key,y] ∧ nw ta) (iitS d kvs.length ep) (.Tuple elts kk px) where
 item:=fun i h oI hi fx g st=>by
  obtain ⟨ok,ov,rfl⟩:=st
  have hx : kvs[i]? = some (kvs[i].1,kvs[i].2):=by simp [hi]
  intro s es
  subst es
  refine wpAny_pyNext_items_item g (P.at' s.heap d (fx (d,o) (.head _))) hx fun key h' hk it' ht hsz keep=>⟨h',s.toks,_,rfl, ?_⟩
  intro s₂ es₂
  subst es₂
  have neI : s.heap.objs.size ≠ I:=fun z=>by have:=Heap.lt_size g; omega
  refine wpAny_letOwnedTupleGo_items it' fun h₂ it₂ sb₂=>⟨h₂,s₂.toks,_,⟨_,_,key,_,hx,hk,rfl,⟨_,(sb₂.2 _ neI).trans ht,rfl,_,rfl⟩,get_size_none _⟩,fun b ob nb eb => ?_,it₂,⟨_,_,rfl⟩⟩
  have nb' : b ≠ I:=by simpa using nb
  exact (sb₂.2 b nb').trans (keep b ob nb' eb)
 done:=fun h oI fx g st=>by
  obtain ⟨ok,ov,rfl⟩:=st
  intro s es
  subst es
  exact wpAny_pyNext_items_end hh g (P.at' s.heap d (fx (d,o) (.head _))) (by walk_at "ms") fun h' he=>⟨h',s.toks,rfl,Sub.ext he⟩
theorem t_itemsV {d : Addr} {o : Obj} {kvs : List (K × Value)} {Q : Value → Heap → Prop} (ho : h.get? d = some o) (hd : IsDicK knd o kvs) (lo : (d == sysModules) = false)
  (q : ∀ a h' o',Sub [] h h' → h.get? a = none → h'.get? a = some o' → (o'.cls = .type "dict_items" ∧ o'.data = .fields #[.ref d]) → Q (.ref a) h') : T prog w A (PySem.call (.builtin "dict.items") [.ref d]) h Q:=fun s es=>by
 subst es
 have hm:=dicOfK (knd:=knd) ho hd
 exact call_meetsIn PySem.F.slot_dict_items hm.typeIs PySem.F.entry_dict_items (PySem.F.args_dict_items_1 _) (meets_dict_items knd d lo) ⟨⟨_,hm⟩,_,s.toks,q _ _ _ (Sub.push _ _) (get_size_none _) (get_push_self _ _) ⟨rfl,rfl⟩⟩
theorem t_iterItemsV {v d : Addr} {ov o : Obj} {kvs : List (K × Value)} {ep : Nat} {Q : Value → Heap → Prop} (hv : h.get? v = some ov) (iv : ov.cls = .type "dict_items" ∧ ov.data = .fields #[.ref d]) (ho : h.get? d = some o) (P : DicParts knd o kvs ep)
  (q : ∀ I h' o',Sub [] h h' → h.get? I = none → h'.get? I = some o' → iitS d kvs.length ep 0 o' → Q (.ref I) h') : T prog w A (pyIter (.ref v)) h Q:=fun s es=>by
 subst es
 refine wpAny_pyIter_items ⟨ov,hv,iv.1,iv.2⟩ (P.at' s.heap d ho) ⟨_,s.toks,q _ _ _ (Sub.push _ _) (get_size_none _) (get_push_self _ _) ⟨.none,.none,rfl⟩⟩
end
end Mine
end
section
namespace Mine
section
variable {prog : Program} {w : World} {A : Around} {h h' h₀ : Heap} {env : Env} {D : List Addr} {L : Addr} {m m' : Str → Option Value} {l l' : List (Addr × Obj)} {Kf : Frag}
theorem TCP.def {f : Addr} {fd : FuncData} {body : List Stmt} {args : List Value} {binds : List (Str × Value)} {Q : Value → Heap → Prop} (lD : List (Addr × Obj)) (F : FnOk Kf f fd body) (G : Gr Kf h) (hroom : A.depth < recursionLimit)
  (hbind : bindArgs fd ⟨args,[]⟩ = Pure.pure binds) (hloc : (binds.map (·.1)).all (fun x=>decide (fd.scope.names.lookup x = some .local)) = true) (hl : ∀ p ∈ lD,h.get? p.1 = some p.2) (nd : (lD.map (·.1)).Nodup)
  (k : ∀ h₁ L,S h (lD.map (·.1)) L (bindM binds) lD h₁ → TP prog w (A.deeper (callEnv fd L f)) (execs body (callEnv fd L f)) h₁ fun fl h'=>Q (match fl with | .ret v=>v | _ => .none) h') : TCP prog w A (.call (.ref f) ⟨args,[]⟩) h Q:=fun s e hp=>by
 subst e
 obtain ⟨o,ho,hd⟩:=F.lk
 refine codeAny_call_def (binds:=binds) hroom (G.k _ _ ho) hd G.nolimit (codeRec_of G.k F.cd) F.body (BindsTo.of_eq hbind) (fun x hx => ?_) (fun x hx => ?_) (fun h₁ hns hkeep => ?_) F.co F.gen F.kind
 ·have:=List.all_eq_true.mp F.cell x hx
  simpa using this
 ·have:=List.all_eq_true.mp hloc x.1 (List.mem_map_of_mem hx)
  exact of_decide_eq_true this
 have H : S s.heap (lD.map (·.1)) s.heap.objs.size (bindM binds) lD h₁:={
  base:=fun b o zz e=>hkeep b o e
  ns:=by rw [← bindM_eq]; exact hns
  led:=fun p hp=>hkeep _ _ (hl p hp)
  own:=fun p hp => .inl (List.mem_map_of_mem hp)
  nodup:=nd
  offL:=fun q=>by
   obtain ⟨p,hp,e⟩:=List.mem_map.mp q
   have:=hl p hp
   rw [e,get_size_none] at this; cases this
  newL:=get_size_none _
  dl:=fun d hd=>hd }
 refine wpAny_mono (k h₁ _ H _ rfl (hp.up (by dsimp only; omega))) (by
  rintro fl s' ⟨h',tk,gs,mk,q⟩
  exact ⟨_,_,_,_,mk,q⟩) fun zz zz z=>z.elim
end
section
variable {K : Type} [DecidableEq K]
noncomputable def placesK : List K → K → Nat → List Int
 | [],_,_=>[]
 | n :: r,k,i=>if n = k then (i : Int) :: placesK r k (i + 1) else placesK r k (i + 1)
theorem placesK_append : ∀ (ps : List K) (n k : K) (i : Nat),placesK (ps ++ [n]) k i = placesK ps k i ++ if n = k then [((i + ps.length : Nat) : Int)] else []
 | [],n,k,i=>by simp [placesK]
 | p :: ps,n,k,i=>by
  rw [List.cons_append,placesK,placesK,placesK_append ps n k (i + 1)]
  split <;> simp [Nat.add_comm,Nat.add_left_comm]
theorem placesK_not {ps : List K} {k : K} : ∀ {i : Nat},k ∉ ps → placesK ps k i = []:=by
 induction ps with
 | nil=>intro i _; rfl
 | cons p ps ih =>
  intro i hk
  rw [placesK,if_neg (fun q=>hk (by simp [q])),ih (fun q=>hk (.tail _ q))]
theorem placesK_len : ∀ (ps : List K) (k : K) (i : Nat),(placesK ps k i).length ≤ ps.length
 | [],k,i=>Nat.le_refl _
 | p :: ps,k,i=>by
  have:=placesK_len ps k (i + 1)
  rw [placesK]
  split <;> simp <;> omega
theorem valueAt_snocK {kvs : List (K × Value)} {n k : K} {v : Value} (hn : valueAt kvs n = none) : valueAt (kvs ++ [(n,v)]) k = if k = n then some v else valueAt kvs k:=by
 unfold valueAt at *
 rw [List.find?_append]
 by_cases e : k = n
 ·subst e
  have : kvs.find? (fun kv=>decide (kv.1 = k)) = none:=by
   cases q : kvs.find? (fun kv=>decide (kv.1 = k)) with
   | none=>rfl
   | some x=>rw [q] at hn; cases hn
  simp [this]
 ·have : ¬ n = k:=fun q=>e q.symm
  simp [e,this]
theorem valueAt_without {kvs : List (K × Value)} {n k : K} : valueAt (without kvs n) k = if k = n then none else valueAt kvs k:=by
 unfold valueAt without
 induction kvs with
 | nil=>simp
 | cons kv r ih =>
  rw [List.filter_cons]
  by_cases e : kv.1 = n
  ·rw [if_neg (by simp [e]),ih]
   by_cases e2 : k = n
   ·rw [if_pos e2,if_pos e2]
   ·rw [if_neg e2,if_neg e2,List.find?_cons_of_neg (by simp; exact fun z=>e2 (z.symm.trans e))]
  ·rw [if_pos (by simp [e])]
   by_cases e3 : kv.1 = k
   ·have hkn : ¬ k = n:=fun z=>e (e3.trans z)
    rw [if_neg hkn,List.find?_cons_of_pos (by simp [e3]),List.find?_cons_of_pos (by simp [e3])]
   ·rw [List.find?_cons_of_neg (by simp [e3]),ih,List.find?_cons_of_neg (by simp [e3])]
theorem without_len {kvs : List (K × Value)} {n : K} : (without kvs n).length ≤ kvs.length:=List.length_filter_le _ _
structure FamK (ps : List K) (keep : K → Bool) (kvs : List (K × Value)) (fam : List (Addr × Obj)) : Prop where
 there : ∀ k ∈ ps,keep k = true → ∃ a o us,valueAt kvs k = some (.ref a) ∧ (a,o) ∈ fam ∧ IsLst o us ∧ IntsAre us (placesK ps k 0)
 no : ∀ k,¬ (k ∈ ps ∧ keep k = true) → valueAt kvs k = none
 inj : ∀ k k' a,valueAt kvs k = some (.ref a) → valueAt kvs k' = some (.ref a) → k = k'
 len : kvs.length ≤ ps.length
noncomputable abbrev allK : K → Bool:=fun zz=>true
theorem FamK.old {ps : List K} {kvs : List (K × Value)} {fam : List (Addr × Obj)} (F : FamK ps allK kvs fam) {n : K} {a : Addr} {o o' : Obj} {us : List Value} {t : Tok} {j : Nat} (hn : valueAt kvs n = some (.ref a)) (hj : fam[j]? = some (a,o))
  (hu : IntsAre us (placesK ps n 0)) (hl' : IsLst o' (us ++ [.int ps.length t])) (hp : n ∈ ps) : FamK (ps ++ [n]) allK kvs (fam.set j (a,o')) where
 there:=fun k hk zz=>by
  by_cases e : k = n
  ·subst e
   refine ⟨a,o',_,hn,List.mem_iff_getElem?.mpr ⟨j, ?_⟩,hl', ?_⟩
   ·have : j < fam.length:=by
     rcases Nat.lt_or_ge j fam.length with y | y
     ·exact y
     ·rw [List.getElem?_eq_none y] at hj; cases hj
    rw [List.getElem?_set_self this]
   ·rw [placesK_append,if_pos rfl,Nat.zero_add]
    exact intsAre_snoc hu
  ·have hk' : k ∈ ps:=by
    rcases List.mem_append.mp hk with y | y
    ·exact y
    ·exact absurd (by simpa using y) e
   obtain ⟨b,ob,us',h1,h2,h3,h4⟩:=F.there k hk' rfl
   refine ⟨b,ob,us',h1, ?_,h3, ?_⟩
   ·obtain ⟨i,hi⟩:=List.mem_iff_getElem?.mp h2
    refine List.mem_iff_getElem?.mpr ⟨i, ?_⟩
    rw [List.getElem?_set_ne,hi]
    intro q
    subst q
    rw [hj] at hi
    have : a = b:=(Prod.mk.inj (Option.some.inj hi)).1
    subst this
    exact e (F.inj k n a h1 hn)
   ·rw [placesK_append,if_neg (fun q=>e q.symm),List.append_nil]; exact h4
 no:=fun k hk=>F.no k fun q=>hk ⟨List.mem_append_left _ q.1,rfl⟩
 inj:=F.inj
 len:=by have:=F.len; rw [List.length_append]; omega
theorem FamK.new {ps : List K} {kvs : List (K × Value)} {fam : List (Addr × Obj)} (F : FamK ps allK kvs fam) {n : K} {a : Addr} {o' : Obj} {t : Tok} (hn : valueAt kvs n = none) (ha : a ∉ fam.map (·.1))
  (hl' : IsLst o' [.int ps.length t]) : FamK (ps ++ [n]) allK (kvs ++ [(n,.ref a)]) ((a,o') :: fam):=by
 have hp : n ∉ ps:=fun q=>by
  obtain ⟨b,_,_,h1,_⟩:=F.there n q rfl
  rw [hn] at h1; cases h1
 have hfam : ∀ k b,valueAt kvs k = some (.ref b) → b ≠ a:=fun k b hb q=>by
  by_cases e : k ∈ ps
  ·obtain ⟨b',ob,us',h1,h2,_⟩:=F.there k e rfl
   rw [h1] at hb
   cases hb
   subst q
   exact ha (List.mem_map.mpr ⟨_,h2,rfl⟩)
  ·rw [F.no k fun z=>e z.1] at hb; cases hb
 refine { there:=fun k hk zz => ?_,no:=fun k hk => ?_,inj:=fun k k' b h1 h2 => ?_,len:=by have:=F.len; simp; exact this }
 ·rw [valueAt_snocK hn]
  by_cases e : k = n
  ·subst e
   refine ⟨a,o',_,if_pos rfl,.head _,hl', ?_⟩
   rw [placesK_append,if_pos rfl,placesK_not hp,Nat.zero_add]
   exact .cons _ _ .nil
  ·have hk' : k ∈ ps:=by
    rcases List.mem_append.mp hk with y | y
    ·exact y
    ·exact absurd (by simpa using y) e
   obtain ⟨b,ob,us',h1,h2,h3,h4⟩:=F.there k hk' rfl
   refine ⟨b,ob,us',by rw [if_neg e]; exact h1,.tail _ h2,h3, ?_⟩
   rw [placesK_append,if_neg (fun q=>e q.symm),List.append_nil]; exact h4
 ·rw [valueAt_snocK hn,if_neg (fun q=>hk ⟨by simp [q],rfl⟩)]
  exact F.no k fun q=>hk ⟨List.mem_append_left _ q.1,rfl⟩
 ·rw [valueAt_snocK hn] at h1 h2
  by_cases e : k = n
  ·by_cases e' : k' = n
   ·rw [e,e']
   ·rw [if_pos e] at h1; rw [if_neg e'] at h2
    cases h1
    exact absurd rfl (hfam k' _ h2)
  ·rw [if_neg e] at h1
   by_cases e' : k' = n
   ·rw [if_pos e'] at h2
    cases h2
    exact absurd rfl (hfam k _ h1)
   ·rw [if_neg e'] at h2; exact F.inj k k' b h1 h2
set_option tactic.hygienic true in
theorem FamK.del {ps : List K} {keep keep' : K → Bool} {kvs : List (K × Value)} {fam : List (Addr × Obj)} (F : FamK ps keep kvs fam) {n : K} (hk : ∀ k,keep' k = (keep k && decide (k ≠ n))) : FamK ps keep' (without kvs n) fam where
 there:=fun k hp hkk=>by
  rw [hk,Bool.and_eq_true,decide_eq_true_eq] at hkk
  obtain ⟨a,o,us,h1,h2⟩:=F.there k hp hkk.1
  exact ⟨a,o,us,by rw [valueAt_without,if_neg hkk.2]; exact h1,h2⟩
 no:=fun k hn=>by
  rw [valueAt_without]
  split
  ·rfl
  ·rename_i e
   exact F.no k fun z=>hn ⟨z.1,by rw [hk,z.2]; simp [e]⟩
 inj:=fun k k' a h1 h2=>by
  rw [valueAt_without] at h1 h2
  split at h1
  ·cases h1
  ·split at h2
   ·cases h2
   ·exact F.inj k k' a h1 h2
 len:=Nat.le_trans without_len F.len
theorem FamK.same {ps : List K} {keep keep' : K → Bool} {kvs : List (K × Value)} {fam : List (Addr × Obj)} (F : FamK ps keep kvs fam) (e : ∀ k ∈ ps,keep' k = keep k) : FamK ps keep' kvs fam where
 there:=fun k hp hk=>F.there k hp (by rw [← e k hp]; exact hk)
 no:=fun k hn=>F.no k fun z=>hn ⟨z.1,by rw [e k z.1]; exact z.2⟩
 inj:=F.inj
 len:=F.len
end
section
variable {prog : Program} {w : World} {A : Around} {h h' h₀ : Heap} {K : Type} [DecidableEq K] {knd : KeyKind prog w K}
structure ItemsK (knd : KeyKind prog w K) (nb : Nat) (Vb : Nat → Value → Prop) (ks : List K) : Prop where
 len : nb = ks.length
 ex : ∀ i,i < nb → ∃ v,Vb i v
 at' : ∀ (i : Nat) v,Vb i v → ∃ k,ks[i]? = some k ∧ knd.is k v = true ∧ v.scannable = true ∧ (keyPart v).isSome = true
noncomputable def chB : List Stmt:=bodyN (stN (bodyN (stN pwBody 5)) 5)
theorem chain_turnK {x dx d : Addr} {od ob : Obj} {ps : List K} {kvs : List (K × Value)} {fam E : List (Addr × Obj)} {env : Env} {m : Str → Option Value} {n : K} {v : Value} {t : Tok}
  (e : EnvOk env) (hk : ∀ y ∈ [(ofString "i"),(ofString "elt"),(ofString "indices"),(ofString "b2j")],env.kindOf y = some .local) (hkn : knd.is n v = true) (hkp : (keyPart v).isSome = true)
  (hm : m (ofString "b2j") = some (.ref d)) (lo : (d == sysModules) = false) (hd : IsDicK knd ob kvs) (hf : FamK ps allK kvs fam) (hz : ps.length < 100000)
  (H : S h₀ [dx] env.locals (upd (upd m (ofString "i") (.int ps.length t)) (ofString "elt") v) ((dx,od) :: (d,ob) :: fam ++ E) h) :
  T prog w A (execs (match stN chB 2 with | .For _ _ b _ _=>b | _=>[]) env) h fun f h₃=>match f with
   | .next => ∃ m₂ ob' kvs' fam',(∀ y,y ≠ (ofString "i") → y ≠ (ofString "elt") → y ≠ (ofString "indices") → m₂ y = m y) ∧ IsDicK knd ob' kvs' ∧ FamK (ps ++ [n]) allK kvs' fam' ∧ S h₀ [dx] env.locals m₂ ((dx,od) :: (d,ob') :: fam' ++ E) h₃
   | _=>False:=by
 have k1:=hk (ofString "i") (by walk_at "ms")
 have k2:=hk (ofString "elt") (by walk_at "ms")
 have k3:=hk (ofString "indices") (by walk_at "ms")
 have k4:=hk (ofString "b2j") (by walk_at "ms")
 have hgd : h.get? d = some ob:=H.get (by walk_at "ms")
 refine T.execs_cons (T.Assign_Name (T.Call_method ?_))
 refine T.Name e H (by walk_at "look") ?_ k4 (by decide +kernel)
 refine t_getMethodB hgd hd.cls.1 hd.cls.2 PySem.F.plainAttrs_dict PySem.F.slot_dict_setdefault PySem.F.type_dict_setdefault ?_
 refine T.callWith ?_ rfl
 refine T.Name e H (by walk_at "look") ?_ k2 (by decide +kernel)
 refine t_List ?_ rfl
 refine ⟨by decide,fun a₀ h₁ o₀ s₁ n₁ g₁ l₁=>⟨Keeps.builtin, ?_⟩⟩
 have H₁:=H.add s₁ n₁ g₁
 have hgd₁ : h₁.get? d = some ob:=H₁.get (by walk_at "ms")
 have rest : ∀ {a : Addr} {o : Obj} {us : List Value} {h₂ : Heap} {l : List (Addr × Obj)} (j : Nat),l[j]? = some (a,o) → IsLst o us → us.length ≤ sizeLine →
   S h₀ [dx] env.locals (upd (upd m (ofString "i") (.int ps.length t)) (ofString "elt") v) l h₂ →
   ∀ Q : Flow → Heap → Prop,(∀ h' o',IsLst o' (us ++ [.int ps.length t]) → S h₀ [dx] env.locals (upd (upd (upd m (ofString "i") (.int ps.length t)) (ofString "elt") v) (ofString "indices") (.ref a)) (l.set j (a,o')) h' → Q .next h') →
   T prog w A (storeName env (ofString "indices") (.ref a)) h₂ fun zz h'=>T prog w A (execs (match (match stN chB 2 with | .For _ _ b _ _=>b | _=>[]) with | _ :: r=>r | []=>[]) env) h' Q:=by
  intro a o us h₂ l j hj hl hz' H₂ Q q
  refine T.storeName e H₂ (fun h₃ H₃ => ?_) k3
  have ga : h₃.get? a = some o:=H₃.get (List.mem_of_getElem? hj)
  refine T.execs_cons (T.Expr (T.Call_method ?_) e.inter)
  refine T.Name e H₃ (by walk_at "look") ?_ k3 (by decide +kernel)
  refine t_getMethodB ga hl.cls.1 hl.cls.2 PySem.F.plainAttrs_list PySem.F.slot_list_append PySem.F.type_list_append ?_
  refine T.callWith ?_ rfl
  refine T.Name e H₃ (by walk_at "look") ?_ k1 (by decide +kernel)
  refine ⟨Keeps.builtin,t_append ga hl hz' fun h₄ o₄ s₄ g₄ l₄=>⟨(fun b q=>by cases q), ?_⟩⟩
  exact T.execs_nil (q h₄ o₄ l₄ (H₃.upd j hj s₄ g₄))
 have hsz : kvs.length ≤ sizeLine:=by rw [sizeLine_eq]; have:=hf.len; omega
 refine t_setdefaultK hkn hkp hgd₁ hd lo hsz (fun u hu => ?_) fun hu h₂ ob' s₂ g₂ d₂ => ?_
 ·have hp : n ∈ ps:=Classical.byContradiction fun q=>by rw [hf.no n fun z=>q z.1] at hu; cases hu
  obtain ⟨a,o,us,f1,f2,f3,f4⟩:=hf.there n hp rfl
  rw [f1] at hu
  cases hu
  obtain ⟨j,hj⟩:=List.mem_iff_getElem?.mp f2
  have hjl : j < fam.length:=by
   rcases Nat.lt_or_ge j fam.length with y | y
   ·exact y
   ·rw [List.getElem?_eq_none y] at hj; cases hj
  have H₁':=H₁.drop (l':=(dx,od) :: (d,ob) :: fam ++ E) (List.sublist_cons_self _ _) (by walk_at "ms")
  have hus : us.length ≤ sizeLine:=by
   have e1:=f4.length
   have:=placesK_len ps n 0
   rw [sizeLine_eq]; omega
  refine rest (j + 2) (l:=(dx,od) :: (d,ob) :: fam ++ E) (by simp [List.getElem?_append_left hjl,hj]) f3 hus H₁' _ fun h' o' hl' H' => ?_
  have : ((dx,od) :: (d,ob) :: fam ++ E).set (j + 2) (a,o') = (dx,od) :: (d,ob) :: fam.set j (a,o') ++ E:=by
   simp [List.set_append_left _ _ hjl]
  rw [this] at H'
  exact ⟨_,ob,kvs,fam.set j (a,o'),(by intro y n1 n2 n3; simp [upd,n1,n2,n3]),hd,hf.old f1 hj f4 hl' hp,H'⟩
 ·have H₂:=H₁.upd (o':=ob') 2 (d:=d) (o:=ob) (by walk_at "ms") s₂ g₂
  have H₂' : S h₀ [dx] env.locals (upd (upd m (ofString "i") (.int ps.length t)) (ofString "elt") v) ((a₀,o₀) :: (dx,od) :: (d,ob') :: (fam ++ E)) h₂:=by simpa using H₂
  refine rest 0 (l:=(a₀,o₀) :: (dx,od) :: (d,ob') :: (fam ++ E)) rfl l₁ (by decide) H₂' _ fun h' o' hl' H' => ?_
  have ha : a₀ ∉ fam.map (·.1):=fun q=>by
   have:=H₂'.nodup
   rw [List.map_cons,List.nodup_cons] at this
   exact this.1 (by simp at q ⊢; exact .inr (.inr (.inl q)))
  have HP:=H'.perm (l':=(dx,od) :: (d,ob') :: (a₀,o') :: (fam ++ E)) ((List.Perm.swap _ _ _).trans (List.Perm.cons _ (List.Perm.swap _ _ _)))
  exact ⟨_,ob',kvs ++ [(n,.ref a₀)],(a₀,o') :: fam,(by intro y n1 n2 n3; simp [upd,n1,n2,n3]),d₂,hf.new hu ha hl',HP⟩
end
end Mine
end
section
namespace Mine
section
variable {prog : Program} {w : World} {A : Around} {h h' h₀ : Heap} {env : Env} {D : List Addr} {m m₀ : Str → Option Value} {K : Type} [DecidableEq K] {knd : KeyKind prog w K} {R fam : List (Addr × Obj)} {ks : List K} {jk : K → Bool}
theorem valueAt_some {kvs : List (K × Value)} {k : K} : (valueAt kvs k).isSome = true ↔ k ∈ kvs.map (·.1):=by
 unfold valueAt
 rw [Option.isSome_map,List.find?_isSome]
 simp only [decide_eq_true_eq,List.mem_map]
theorem FamK.keys {keep : K → Bool} {kvs : List (K × Value)} (F : FamK ks keep kvs fam) {k : K} : k ∈ kvs.map (·.1) ↔ k ∈ ks ∧ keep k = true:=by
 rw [← valueAt_some]
 constructor
 ·intro z
  refine Classical.byContradiction fun q => ?_
  rw [F.no k q] at z; cases z
 ·rintro ⟨z1,z2⟩
  obtain ⟨a,o,us,h1,_⟩:=F.there k z1 z2
  rw [h1]; rfl
theorem IsDicK.nodup {o : Obj} {kvs : List (K × Value)} (hd : IsDicK knd o kvs) : (kvs.map (·.1)).Nodup:=by
 obtain ⟨es,ep,_,_,_,_,hn⟩:=hd
 exact hn
theorem mem_addK {ks : List K} {k x : K} : x ∈ addK ks k ↔ x ∈ ks ∨ x = k:=by
 unfold addK
 split
 ·exact ⟨.inl,fun z=>z.elim id fun e=>e ▸ ‹_›⟩
 ·simp
theorem addK_len {ks : List K} {k : K} : (addK ks k).length ≤ ks.length + 1:=by
 unfold addK
 split <;> simp
theorem t_assignPair {x y : Str} {px py pt : Pos} {k1 : Nat} {ta : Addr} {u v : Value} {l : List (Addr × Obj)} {Q : Unit → Heap → Prop} (e : EnvOk env) (hh : A.handled = none) (H : S h₀ D env.locals m l h) (hta : h.IsTuple ta #[u,v]) (hx : env.kindOf x = some .local) (hy : env.kindOf y = some .local) (q : ∀ h',S h₀ D env.locals (upd (upd m x u) y v) l h' → Q () h') : T prog w A (assign (.Tuple [.Name x px,.Name y py] k1 pt) env (.ref ta)) h Q:=fun s es=>by
 subst es
 refine wpAny_assign_Tuple hh hta rfl rfl fun h₄ hx₄ => ?_
 have H₄:=H.sub (h':=h₄) (fun b ob zz eb=>hx₄ b ob (fun q=>by rw [q,get_size_none] at eb; cases eb) eb)
 have step : T prog w A (assignInOrder ((assignEach [PySem.Expr.Name x px,.Name y py] env).map (·.2)) [u,v]) h₄ fun zz h₅=>S h₀ D env.locals (upd (upd m x u) y v) l h₅ :=
  t_assignNames (px:=px) e (xs:=[(x,px),(y,py)]) H₄ rfl (by
   intro z hz
   rcases List.mem_cons.mp hz with rfl | hz
   ·exact hx
   ·obtain rfl:=List.mem_singleton.mp hz
    exact hy) fun h' H'=>H'
 refine wpAny_mono (step _ rfl) ?_ fun zz zz z=>z
 rintro _ s₅ ⟨h₅,t₅,H₅⟩
 exact ⟨h₅,t₅,q h₅ H₅⟩
structure Filt (prog : Program) (w : World) {K : Type} [DecidableEq K] (knd : KeyKind prog w K) (jf : Value) (jk : K → Bool) (Gj : Heap → Prop) : Prop where
 fn : ∃ f,jf = .ref f ∧ ∀ h,Gj h → ∃ o,h.get? f = some o ∧ o.cls = .type "function"
 keeps : ∀ h,Gj h → Keeps prog w jf h
 call : ∀ {A : Around} {h : Heap} {v : Value} {k : K},A.handled = none → A.depth + 30 < recursionLimit → A.units + 60 < cLine → Gj h → knd.is k v = true → v.scannable = true → T prog w A (call jf [v]) h fun r h'=>r = .bool (jk k) ∧ Sub [] h h'
inductive SetInv (knd : KeyKind prog w K) (R : List (Addr × Obj)) (d : Addr) (ob : Obj) (dj : Addr) (ks : List K) (P : K → Prop) (old : (Str → Option Value) → Prop) (i : Nat) (m : Str → Option Value) : List (Addr × Obj) → Prop
 | mk (oj : Obj) (js : List K) : IsSetK knd oj js → (∀ k,k ∈ js ↔ k ∈ ks.take i ∧ P k) → js.length ≤ i → old m → SetInv knd R d ob dj ks P old i m ((d,ob) :: (dj,oj) :: R)
section
variable {d dj : Addr} {ob : Obj} {P : K → Prop} {old : (Str → Option Value) → Prop} {i : Nat} {l₁ : List (Addr × Obj)}
theorem SetInv.dom (x : SetInv knd R d ob dj ks P old i m l₁) (hR : ∀ x ∈ D,x ∈ R.map (·.1)) : ∀ x ∈ D,x ∈ l₁.map (·.1):=by
 cases x
 exact fun x hx => .tail _ (.tail _ (hR x hx))
theorem SetInv.led {L : Addr} {h₂ : Heap} (x : SetInv knd R d ob dj ks P old i m l₁) (H : S h₀ D L m l₁ h₂) : ∀ p ∈ [(d,ob)],h₂.get? p.1 = some p.2:=by
 cases x
 intro p hp
 rw [List.mem_singleton.mp hp]
 exact H.led _ (.head _)
theorem take_skip {js : List K} {k : K} (hk : ks[i]? = some k) (h : ∀ x,x ∈ js ↔ x ∈ ks.take i ∧ P x) (n : ¬ P k) (x : K) : x ∈ js ↔ x ∈ ks.take (i + 1) ∧ P x:=by
 rw [h x,List.take_add_one,hk,List.mem_append]
 constructor
 ·exact fun z=>⟨.inl z.1,z.2⟩
 ·rintro ⟨z | z,z2⟩
  ·exact ⟨z,z2⟩
  ·rw [List.mem_singleton.mp z] at z2
   exact absurd z2 n
theorem take_add {js : List K} {k : K} (hk : ks[i]? = some k) (h : ∀ x,x ∈ js ↔ x ∈ ks.take i ∧ P x) (n : P k) (x : K) : x ∈ addK js k ↔ x ∈ ks.take (i + 1) ∧ P x:=by
 rw [mem_addK,h x,List.take_add_one,hk,List.mem_append]
 constructor
 ·rintro (z | rfl)
  ·exact ⟨.inl z.1,z.2⟩
  ·exact ⟨.inr (.head _),n⟩
 ·rintro ⟨z | z,z2⟩
  ·exact .inl ⟨z,z2⟩
  ·exact .inr (List.mem_singleton.mp z)
end
theorem IsDicK.at {o : Obj} {kvs : List (K × Value)} (hd : IsDicK knd o kvs) {i : Nat} {k : K} {y : Value} (hk : kvs[i]? = some (k,y)) : valueAt kvs k = some y:=by
 have nd:=hd.nodup
 unfold valueAt
 have : kvs.find? (fun kv=>decide (kv.1 = k)) = some (k,y):=by
  rw [List.find?_eq_some_iff_getElem]
  obtain ⟨hlt,he⟩:=List.getElem?_eq_some_iff.mp hk
  refine ⟨by simp,i,hlt,he,fun j hj => ?_⟩
  have:=List.pairwise_iff_getElem.mp (List.nodup_iff_pairwise_ne.mp nd) j i (by simp; omega) (by simpa using hlt) hj
  simp only [List.getElem_map,he] at this
  simpa using this
 rw [this]; rfl
inductive DelInv (knd : KeyKind prog w K) (R : List (Addr × Obj)) (d : Addr) (ks js : List K) (keep : K → Bool) (fam : List (Addr × Obj)) (m₀ : Str → Option Value) (i : Nat) (m : Str → Option Value) : List (Addr × Obj) → Prop
 | mk (ob : Obj) (kvs : List (K × Value)) : IsDicK knd ob kvs → FamK ks (fun k=>keep k && decide (k ∉ js.take i)) kvs fam → (∀ y,y ≠ (ofString "elt") → m y = m₀ y) → DelInv knd R d ks js keep fam m₀ i m ((d,ob) :: R)
theorem nodup_take {js : List K} (nd : js.Nodup) {i : Nat} {k : K} (hk : js[i]? = some k) : k ∉ js.take i:=fun z=>by
 obtain ⟨j,hj⟩:=List.mem_iff_getElem?.mp z
 have hji : j < i:=by
  rcases Nat.lt_or_ge j i with y | y
  ·exact y
  ·rw [List.getElem?_eq_none (by simp; omega)] at hj; cases hj
 rw [List.getElem?_take_of_lt hji] at hj
 have hl1:=(List.getElem?_eq_some_iff.mp hj)
 have hl2:=(List.getElem?_eq_some_iff.mp hk)
 exact List.pairwise_iff_getElem.mp (List.nodup_iff_pairwise_ne.mp nd) j i hl1.1 hl2.1 hji (by rw [hl1.2,hl2.2])
theorem del_loop {nm : Str} {p1 p2 p3 p4 p5 p6 p7 : Pos} {d dj : Addr} {ob oj : Obj} {kvs : List (K × Value)} {js : List K} {keep : K → Bool} {Q : Flow → Heap → Prop} (e : EnvOk env) (hh : A.handled = none) (ke : env.kindOf (ofString "elt") = some .local) (kb : env.kindOf (ofString "b2j") = some .local) (kn : env.kindOf nm = some .local) (ne : nm ≠ (ofString "elt")) (nd : (nm == ("__debug__" : Str)) = false)
  (hmb : m (ofString "b2j") = some (.ref d)) (hmn : m nm = some (.ref dj)) (hd : IsDicK knd ob kvs) (F : FamK ks keep kvs fam) (hz : ks.length < 100000) (hs : IsSetK knd oj js) (hjs : ∀ k ∈ js,k ∈ ks ∧ keep k = true) (hR : ∀ x ∈ D,x ∈ R.map (·.1)) (H : S h₀ D env.locals m ((d,ob) :: (dj,oj) :: R) h)
  (q : ∀ h' m' ob' kvs',(∀ y,y ≠ (ofString "elt") → m' y = m y) → IsDicK knd ob' kvs' → FamK ks (fun k=>keep k && decide (k ∉ js)) kvs' fam → S h₀ D env.locals m' ((d,ob') :: (dj,oj) :: R) h' → Q .next h') :
  TP prog w A (exec (.For (.Name (ofString "elt") p1) (.Name nm p2) [.Delete [.Subscript (.Name (ofString "b2j") p3) (.Name (ofString "elt") p4) p5] p6] [] p7) env) h Q:=by
 refine TP.For (TP.of (T.Name e H hmn ?_ kn nd))
 refine p_iterSet hh (H.get (by walk_at "ms")) hs fun I ord ext St oI h₁ io it => ?_
 obtain ⟨sub,nI,gI,st,new,ndx,walk⟩:=it
 obtain ⟨ks',hp,hlen,hks⟩:=io.keys
 have nd' : ks'.Nodup:=hp.nodup_iff.mpr (let ⟨_,_,_,P⟩:=hs; P.nd)
 have X : Ext h ((I,oI) :: ext) h₁:=⟨sub,fun p hp=>by
  rcases List.mem_cons.mp hp with rfl | hp
  ·exact gI
  ·exact (new p hp).2,fun p hp=>by
  rcases List.mem_cons.mp hp with rfl | hp
  ·exact nI
  ·exact (new p hp).1,ndx⟩
 have H₁:=(H.ext X).perm (l':=((d,ob) :: (dj,oj) :: (ext ++ R)) ++ [(I,oI)]) (by
  refine (List.perm_append_comm (l₁:=[(I,oI)]) (l₂:=ext ++ ((d,ob) :: (dj,oj) :: R))).trans ?_
  refine List.Perm.append_right _ ?_
  exact (List.perm_append_comm_assoc ext [(d,ob),(dj,oj)] R).trans (by walk_at "ms"))
 refine TFP.of ?_
 have hRr : ∀ x ∈ D,x ∈ ((dj,oj) :: (ext ++ R)).map (·.1):=fun x hx=>by
  have:=hR x hx
  rw [List.map_cons,List.map_append]
  exact .tail _ (List.mem_append_right _ this)
 refine tf_walkI (walk (ofString "elt") p1) H₁ st (DelInv knd ((dj,oj) :: (ext ++ R)) d ks ks' keep fam m) ?_ ?_ ?_ ?_ ?_
 ·rintro i m₁ l₁ ⟨⟩ x hx
  exact .tail _ (hRr x hx)
 ·rintro i m₁ l₁ h₂ ⟨⟩ HS p hp
  rcases List.mem_cons.mp hp with rfl | hp
  ·exact HS.led _ (.tail _ (.head _))
  ·exact HS.led _ (.tail _ (.tail _ (List.mem_append_left _ hp)))
 ·exact ⟨ob,kvs,hd,F.same fun k zz=>by simp,fun y zz=>rfl⟩
 ·rintro i v nw m₁ _ o₂ h₂ hi hv _ ⟨ob₁,kvs₁,hd₁,F₁,hm₁⟩ HS
  obtain ⟨k,hk1,hk2,hk3⟩:=hks i v hv
  refine t_assignName e HS (fun h₃ H₃ => ?_) ke
  refine T.execs_cons (t_Delete ?_)
  refine T.Name e H₃ (upd_next (by decide +kernel) ((hm₁ _ (by decide +kernel)).trans hmb)) ?_ kb (by decide +kernel)
  refine T.Name e H₃ upd_here ?_ ke (by decide +kernel)
  have kjs:=hjs k (hp.mem_iff.mp (List.mem_of_getElem? hk1))
  have hval : (valueAt kvs₁ k).isSome = true:=valueAt_some.mpr (F₁.keys.mpr ⟨kjs.1,by rw [kjs.2,decide_eq_true (nodup_take nd' hk1)]; rfl⟩)
  refine t_delK hk2 (H₃.get (.head _)) hd₁ (by rw [sizeLine_eq]; have:=F₁.len; omega) hval fun h₄ ob₄ s₄ g₄ d₄ => ?_
  have H₄:=H₃.upd 0 (d:=d) (o:=ob₁) rfl s₄ g₄
  refine T.execs_nil ⟨_,(d,ob₄) :: (dj,oj) :: (ext ++ R),⟨ob₄,_,d₄,F₁.del fun x => ?_,fun y hy=>(upd_next hy rfl).trans (hm₁ y hy)⟩,H₄⟩
  rw [List.take_add_one,hk1]
  by_cases hx : x = k
  ·subst hx; simp
  ·simp [hx]
 ·rintro m₁ _ h₂ ⟨ob₁,kvs₁,hd₁,F₁,hm₁⟩ HS
  rw [hp.length_eq.symm,List.take_length] at F₁
  refine q h₂ m₁ ob₁ kvs₁ hm₁ hd₁ (F₁.same fun k zz => ?_) (HS.drop (by walk_at "ms") fun x hx => ?_)
  ·rw [show decide (k ∉ js) = decide (k ∉ ks') by simp [hp.mem_iff]]
  ·exact .tail _ (.tail _ (hR x hx))
noncomputable def jB : List Stmt:=match stN chB 5 with | .If _ b _ _=>b | _=>[]
theorem key_loop {d dj : Addr} {ob oj : Obj} {kvs : List (K × Value)} {jv : Value} {Gj : Heap → Prop} {Q : Flow → Heap → Prop} (e : EnvOk env) (hh : A.handled = none) (hr : A.depth + 30 < recursionLimit) (hu : A.units + 60 < cLine) (ke : env.kindOf (ofString "elt") = some .local) (kb : env.kindOf (ofString "b2j") = some .local) (kj : env.kindOf (ofString "junk") = some .local) (ki : env.kindOf (ofString "isjunk") = some .local)
  (hmb : m (ofString "b2j") = some (.ref d)) (hmj : m (ofString "junk") = some (.ref dj)) (hmi : m (ofString "isjunk") = some jv) (lo : (d == sysModules) = false) (hd : IsDicK knd ob kvs) (hs : IsSetK knd oj []) (hz : kvs.length + 1 < scanBound) (f : Filt prog w knd jv jk Gj) (gj : ∀ m l h,S h₀ D env.locals m l h → Gj h) (sc : ∀ k v,k ∈ kvs.map (·.1) → knd.is k v = true → v.scannable = true) (hR : ∀ x ∈ D,x ∈ R.map (·.1)) (H : S h₀ D env.locals m ((d,ob) :: (dj,oj) :: R) h)
  (q : ∀ h' m' oj' js,(∀ y,y ≠ (ofString "elt") → m' y = m y) → IsSetK knd oj' js → (∀ k,k ∈ js ↔ k ∈ kvs.map (·.1) ∧ jk k = true) → S h₀ D env.locals m' ((d,ob) :: (dj,oj') :: R) h' → Q .next h') :
  T prog w A (exec (stN jB 0) env) h Q:=by
 refine T.For (T.Call_method ?_)
 refine T.Name e H hmb ?_ kb (by decide +kernel)
 refine t_getMethodB (H.get (by walk_at "ms")) hd.cls.1 hd.cls.2 PySem.F.plainAttrs_dict PySem.F.slot_dict_keys PySem.F.type_dict_keys ?_
 refine T.callWith (es:=[]) ?_ rfl
 refine ⟨Keeps.builtin,t_keysV (H.get (by walk_at "ms")) hd lo fun a h₁ ov s₁ n₁ g₁ iv => ?_⟩
 obtain ⟨ep,P⟩:=hd.parts
 have H₁:=H.sub s₁
 refine t_iterKeysV (o:=ov) g₁ iv (P.at' h₁ d (H₁.get (by walk_at "ms"))) fun I h₂ oI s₂ n₂ g₂ st => ?_
 have H₂:=H₁.addEnd s₂ n₂ g₂
 refine tf_walkI (walkKeys hh P) H₂ st (SetInv knd R d ob dj (kvs.map (·.1)) (fun k=>jk k = true) (fun m₁ => ∀ y,y ≠ (ofString "elt") → m₁ y = m y)) (fun zz zz zz x=>x.dom hR) (fun zz zz zz zz x=>x.led) ⟨oj,[],hs,fun k=>by simp,Nat.le_refl _,fun y zz=>rfl⟩ ?_ ?_
 ·rintro i v nw m₁ _ o₂ h₃ hi ⟨k,y,hk1,hk2⟩ _ ⟨oj₁,js,hs₁,hjs,hjl,hm₁⟩ HS
  have hk : (kvs.map (·.1))[i]? = some k:=by rw [List.getElem?_map,hk1]; rfl
  have hsc:=sc k v (List.mem_of_getElem? hk) hk2
  refine t_assignName e HS (fun h₄ H₄ => ?_) ke
  refine T.execs_cons (T.If (t_isTrue_plain (T.Call_Name ?_)))
  refine T.Name e H₄ (upd_next (by decide +kernel) ((hm₁ _ (by decide +kernel)).trans hmi)) ?_ ki (by decide +kernel)
  refine T.callWith ?_ rfl
  refine T.Name e H₄ upd_here ?_ ke (by decide +kernel)
  refine ⟨f.keeps _ (gj _ _ _ H₄),(f.call (k:=k) hh hr hu (gj _ _ _ H₄) hk2 hsc).mono fun r h₅ ⟨er,s₅⟩ => ?_⟩
  subst er
  have H₅:=H₄.sub s₅
  refine T.truthy_bool ?_
  cases hjk : jk k with
  | false =>
   rw [if_neg Bool.false_ne_true]
   exact T.execs_nil (T.execs_nil ⟨_,_,⟨oj₁,js,hs₁,take_skip hk hjs (by rw [hjk]; exact Bool.false_ne_true),Nat.le_succ_of_le hjl,fun y hy=>(upd_next hy rfl).trans (hm₁ y hy)⟩,H₅⟩)
  | true =>
   rw [if_pos rfl]
   refine T.execs_cons (T.Expr (T.Call_method ?_) e.inter)
   refine T.Name e H₅ (upd_next (by decide +kernel) ((hm₁ _ (by decide +kernel)).trans hmj)) ?_ kj (by decide +kernel)
   refine t_getMethodB (H₅.get (o:=oj₁) (.tail _ (.head _))) hs₁.cls.1 hs₁.cls.2 PySem.F.plainAttrs_set PySem.F.slot_set_add PySem.F.type_set_add ?_
   refine T.callWith ?_ rfl
   refine T.Name e H₅ upd_here ?_ ke (by decide +kernel)
   refine ⟨Keeps.builtin,t_setAdd hk2 hsc (H₅.get (o:=oj₁) (.tail _ (.head _))) hs₁ (by omega) fun h₆ oj₆ s₆ g₆ hs₆=>⟨(fun b z=>by cases z), ?_⟩⟩
   exact T.execs_nil (T.execs_nil ⟨_,(d,ob) :: (dj,oj₆) :: R,⟨oj₆,addK js k,hs₆,take_add hk hjs hjk,Nat.le_trans addK_len (Nat.succ_le_succ hjl),fun y hy=>(upd_next hy rfl).trans (hm₁ y hy)⟩,H₅.upd 1 (d:=dj) (o:=oj₁) rfl s₆ g₆⟩)
 ·rintro m₁ _ h₃ ⟨oj₁,js,hs₁,hjs,hjl,hm₁⟩ HS
  rw [← List.length_map (f:=(·.1)),List.take_length] at hjs
  exact q h₃ m₁ oj₁ js hm₁ hs₁ hjs HS
noncomputable def pB : List Stmt:=match stN chB 8 with | .If _ b _ _=>b | _=>[]
theorem items_loop {d dj : Addr} {ob oj : Obj} {kvs : List (K × Value)} {keep : K → Bool} {T₀ : Nat} {t : Tok} {Q : Flow → Heap → Prop} {Kf : Frag} (e : EnvOk env) (hh : A.handled = none) (ke : env.kindOf (ofString "elt") = some .local) (kx : env.kindOf (ofString "idxs") = some .local) (kb : env.kindOf (ofString "b2j") = some .local) (kj : env.kindOf (ofString "popular") = some .local) (kt : env.kindOf (ofString "ntest") = some .local) (kl : env.kindOf (ofString "len") = some .globalImplicit)
  (GG : ∀ m l h,S h₀ D env.locals m l h → Gr Kf h) (hnl : nsIn Kf mainGlobals (ofString "len") = some none)
  (hmb : m (ofString "b2j") = some (.ref d)) (hmj : m (ofString "popular") = some (.ref dj)) (hmt : m (ofString "ntest") = some (.int T₀ t)) (lo : (d == sysModules) = false) (hd : IsDicK knd ob kvs) (F : FamK ks keep kvs fam) (hs : IsSetK knd oj []) (hz : ks.length + 1 < scanBound) (sc : ∀ k v,k ∈ kvs.map (·.1) → knd.is k v = true → v.scannable = true) (hR : ∀ x ∈ D,x ∈ R.map (·.1)) (hF : ∀ p ∈ fam,p ∈ R) (H : S h₀ D env.locals m ((d,ob) :: (dj,oj) :: R) h)
  (q : ∀ h' m' oj' js,(∀ y,y ≠ (ofString "elt") → y ≠ (ofString "idxs") → m' y = m y) → IsSetK knd oj' js → (∀ k,k ∈ js ↔ (k ∈ ks ∧ keep k = true) ∧ T₀ < (placesK ks k 0).length) → S h₀ D env.locals m' ((d,ob) :: (dj,oj') :: R) h' → Q .next h') :
  T prog w A (exec (stN pB 1) env) h Q:=by
 refine T.For (T.Call_method ?_)
 refine T.Name e H hmb ?_ kb (by decide +kernel)
 refine t_getMethodB (H.get (by walk_at "ms")) hd.cls.1 hd.cls.2 PySem.F.plainAttrs_dict PySem.F.slot_dict_items PySem.F.type_dict_items ?_
 refine T.callWith (es:=[]) ?_ rfl
 refine ⟨Keeps.builtin,t_itemsV (H.get (by walk_at "ms")) hd lo fun a h₁ ov s₁ n₁ g₁ iv => ?_⟩
 obtain ⟨ep,P⟩:=hd.parts
 have H₁:=H.sub s₁
 refine t_iterItemsV g₁ iv (H₁.get (by walk_at "ms")) P fun I h₂ oI s₂ n₂ g₂ st => ?_
 have H₂:=H₁.addEnd s₂ n₂ g₂
 have hlen:=F.len
 refine tf_walkI (walkItems hh P) H₂ st (SetInv knd R d ob dj (kvs.map (·.1)) (fun k=>T₀ < (placesK ks k 0).length) (fun m₁ => ∀ y,y ≠ (ofString "elt") → y ≠ (ofString "idxs") → m₁ y = m y)) (fun zz zz zz x=>x.dom hR) (fun zz zz zz zz x=>x.led) ⟨oj,[],hs,fun k=>by simp,Nat.le_refl _,fun y zz zz=>rfl⟩ ?_ ?_
 ·rintro i v nw m₁ _ o₂ h₃ hi ⟨k,y,key,ta,hk1,hk2,rfl,hta,hnw⟩ hfr ⟨oj₁,js,hs₁,hjs,hjl,hm₁⟩ HS
  have hk : (kvs.map (·.1))[i]? = some k:=by rw [List.getElem?_map,hk1]; rfl
  have kin:=List.mem_of_getElem? hk
  have hsc:=sc k key kin hk2
  have hkk:=F.keys.mp kin
  obtain ⟨ai,oi,us,g1,g2,g3,g4⟩:=F.there k hkk.1 hkk.2
  obtain rfl : y = .ref ai:=Option.some.inj ((hd.at hk1).symm.trans g1)
  refine t_assignPair e hh HS hta ke kx fun h₄ H₄ => ?_
  have lk : ∀ z,z ≠ (ofString "elt") → z ≠ (ofString "idxs") → upd (upd m₁ (ofString "elt") key) (ofString "idxs") (.ref ai) z = m z:=fun z n1 n2=>(upd_next n2 rfl).trans ((upd_next n1 rfl).trans (hm₁ z n1 n2))
  have gai : h₄.get? ai = some oi:=H₄.get (.tail _ (.tail _ (List.mem_append_left _ (hF _ g2))))
  have hul : us.length = (placesK ks k 0).length:=g4.length
  have hpl:=placesK_len ks k 0
  have hz' : ks.length < 100000:=by have : scanBound = 4096:=rfl; omega
  refine T.execs_cons (T.If (T.isTrue_Compare (T.Call_Name ?_)))
  refine T.builtin (v := .builtin "len") e (GG _ _ _ H₄) hnl (by kernel_rfl!) ?_ kl (by decide +kernel) (by decide +kernel)
  refine T.callWith ?_ rfl
  refine T.Name e H₄ upd_here ?_ kx (by decide +kernel)
  refine ⟨Keeps.builtin,t_len (g3.isList gai) (by omega) fun t1 => ?_⟩
  refine T.Name e H₄ ((lk _ (by decide +kernel) (by decide +kernel)).trans hmt) ?_ kt (by decide +kernel)
  refine T.gt (T.truthy_bool ?_)
  by_cases hgt : T₀ < (placesK ks k 0).length
  ·rw [if_pos (by rw [decide_eq_true_eq]; omega)]
   refine T.execs_cons (T.Expr (T.Call_method ?_) e.inter)
   refine T.Name e H₄ ((lk _ (by decide +kernel) (by decide +kernel)).trans hmj) ?_ kj (by decide +kernel)
   refine t_getMethodB (H₄.get (o:=oj₁) (.tail _ (.head _))) hs₁.cls.1 hs₁.cls.2 PySem.F.plainAttrs_set PySem.F.slot_set_add PySem.F.type_set_add ?_
   refine T.callWith ?_ rfl
   refine T.Name e H₄ (upd_next (by decide +kernel) upd_here) ?_ ke (by decide +kernel)
   refine ⟨Keeps.builtin,t_setAdd hk2 hsc (H₄.get (o:=oj₁) (.tail _ (.head _))) hs₁ (by omega) fun h₆ oj₆ s₆ g₆ hs₆=>⟨(fun b z=>by cases z), ?_⟩⟩
   exact T.execs_nil (T.execs_nil ⟨_,(d,ob) :: (dj,oj₆) :: R,⟨oj₆,addK js k,hs₆,take_add hk hjs hgt,Nat.le_trans addK_len (Nat.succ_le_succ hjl),lk⟩,H₄.upd 1 (d:=dj) (o:=oj₁) rfl s₆ g₆⟩)
  ·rw [if_neg (by rw [decide_eq_true_eq]; omega)]
   exact T.execs_nil (T.execs_nil ⟨_,_,⟨oj₁,js,hs₁,take_skip hk hjs hgt,Nat.le_succ_of_le hjl,lk⟩,H₄⟩)
 ·rintro m₁ _ h₃ ⟨oj₁,js,hs₁,hjs,hjl,hm₁⟩ HS
  rw [← List.length_map (f:=(·.1)),List.take_length] at hjs
  exact q h₃ m₁ oj₁ js hm₁ hs₁ (fun k=>by rw [hjs k,F.keys]) HS
end
end Mine
end
section
namespace Mine
section
variable {prog : Program} {w : World} {A : Around} {h h' h₀ : Heap} {env : Env} {D : List Addr} {m : Str → Option Value} {l : List (Addr × Obj)}
structure EnumOf (prog : Program) (w : World) (bv : Value) (n : Nat) (V : Nat → Value → Prop) (G : Heap → Prop) (St : Addr → Nat → Heap → Prop) (fp : Addr → List Addr) : Prop where
 call : ∀ {A : Around} {s : Shared} {Q : Value → Shared → Prop} {E : Value → Shared → Prop},G s.heap → (∀ h',IsEnum h' (s.heap.objs.size + 1) s.heap.objs.size 0 .none → St s.heap.objs.size 0 h' → h'.objs.size = s.heap.objs.size + 2 →
  (∀ b o,s.heap.get? b = some o → h'.get? b = some o) → Q (.ref (s.heap.objs.size + 1)) { s with heap:=h' }) → wpAny (model prog w) A (PySem.call (.type "enumerate") [bv]) Q E s
 draws : ∀ {A : Around} {I : Addr} {h : Heap},A.handled = none → G h → h.get? I = none → h.get? (I + 1) = none → Draws prog w A.in1 I (fp I) n V (St I) ∧ I + 1 ∉ fp I
 at' : ∀ {I : Addr} {i : Nat} {h h' : Heap} {o : Obj},St I i h → h.get? I = some o → h'.get? I = some o → G h' → St I i h'
inductive EnmD (h₀ : Heap) (D : List Addr) (L I : Addr) (n : Nat) (St : Nat → Heap → Prop) (Inv : Nat → (Str → Option Value) → List (Addr × Obj) → Prop) (k : Nat) (h : Heap) : Prop
 | mk (i : Nat) (m₁ : Str → Option Value) (l₁ : List (Addr × Obj)) (oi oe : Obj) (old : Value) (x1 : k + i = n) (x2 : Inv i m₁ l₁) (x3 : S h₀ D L m₁ (l₁ ++ [(I,oi),(I + 1,oe)]) h) (x4 : St i h) (x5 : IsEnum h (I + 1) I i old)
theorem tf_enumD {xi xv : Str} {pi pv pt : Pos} {k1 : Nat} {bv : Value} {n : Nat} {V : Nat → Value → Prop} {G : Heap → Prop} {St : Addr → Nat → Heap → Prop} {fp : Addr → List Addr} {body : List Stmt} {Q : Flow → Heap → Prop} (W : EnumOf prog w bv n V G St fp) (e : EnvOk env) (hh : A.handled = none) (hxi : env.kindOf xi = some .local) (hxv : env.kindOf xv = some .local) (H : S h₀ D env.locals m l h)
  (Inv : Nat → (Str → Option Value) → List (Addr × Obj) → Prop) (hD : ∀ i m l,Inv i m l → ∀ d ∈ D,d ∈ l.map (·.1))
  (hl : ∀ i m l h,Inv i m l → S h₀ D env.locals m l h → G h) (h0 : Inv 0 m l)
  (turn : ∀ i v t m₁ l₁ E h,V i v → i < n → Inv i m₁ l₁ → S h₀ D env.locals (upd (upd m₁ xi (.int i t)) xv v) (l₁ ++ E) h → T prog w A (execs body env) h fun f h₃=>match f with
   | .next | .cont => ∃ m₂ l₂,Inv (i + 1) m₂ l₂ ∧ S h₀ D env.locals m₂ (l₂ ++ E) h₃
   | .brk=>Q .next h₃
   | .ret v=>Q (.ret v) h₃)
  (done : ∀ m₁ l₁ h,Inv n m₁ l₁ → S h₀ D env.locals m₁ l₁ h → Q .next h) :
  T prog w A (PySem.call (.type "enumerate") [bv]) h fun ev h₁=>T prog w A (pyIter ev) h₁ fun it h₂=>TF prog w A (.forLoop (.Tuple [.Name xi pi,.Name xv pv] k1 pt) it body [] env) h₂ Q:=fun s es=>by
 subst es
 have g0:=hl 0 m l _ h0 H
 refine W.call g0 fun h₁ he hit hsz hk=>⟨h₁,s.toks, ?_⟩
 have n0 : s.heap.get? s.heap.objs.size = none:=get_size_none _
 have n1 : s.heap.get? (s.heap.objs.size + 1) = none:=by
  cases q : s.heap.get? (s.heap.objs.size + 1) with
  | none=>rfl
  | some o=>exact absurd (Heap.lt_size q) (Nat.not_lt.mpr (Nat.le_succ _))
 obtain ⟨dr,nfp⟩:=W.draws hh g0 n0 n1
 obtain ⟨oi,hoi⟩:=dr.live _ _ hit
 have HI : S h₀ D env.locals m (l ++ [(s.heap.objs.size,oi)]) h₁:=H.addEnd (Sub.of_keep hk) n0 hoi
 obtain ⟨f1,f2,f3⟩:=H.fresh n1
 have HE:=HI.track he f1 f2 (by
  rw [List.map_append,List.mem_append]
  exact fun q=>q.elim f3 fun q=>absurd (by simpa using q) (Nat.succ_ne_self s.heap.objs.size))
 rw [List.append_assoc] at HE
 have hg : ∀ i m₁ l₁ (E : List (Addr × Obj)) h,Inv i m₁ l₁ → S h₀ D env.locals m₁ (l₁ ++ E) h → G h:=fun i m₁ l₁ E h hi HS=>hl i m₁ l₁ h hi (HS.dropEnd (hD _ _ _ hi))
 refine fun s₁ es₁ => ?_
 subst es₁
 refine wpAny_pyIter_enum he ⟨_,s₁.toks, ?_⟩
 generalize hI : s.heap.objs.size = I at *
 refine TF.forLoop (EnmD h₀ D env.locals I n (St I) Inv) ?_ n ⟨0,m,l,_,_,_,rfl,h0,HE,hit,he⟩
 rintro k h ⟨i,m₁,l₁,oi,oe,old,hk',hi,HS,hit,he⟩
 intro s' es'
 subst es'
 have ne : I + 1 ≠ I:=Nat.succ_ne_self _
 rcases Nat.lt_or_ge i n with hlt | hge
 ·refine wpAny_pyNext_enum_itemD dr he hit hlt ne nfp fun v h₂ tk hv heo hit₂ ht hsz₂ hk₂=>⟨h₂,_, ?_⟩
  have own:=HS.ownEnd (hD _ _ _ hi)
  have HB:=HS.dropEnd (hD _ _ _ hi)
  have hnewT : s'.heap.get? s'.heap.objs.size = none:=get_size_none _
  obtain ⟨o₂,ho₂⟩:=dr.live _ _ hit₂
  have H₂ : S h₀ D env.locals m₁ l₁ h₂:=HB.keepBut (X:=[I,I + 1]) (fun b ob nb eb=>hk₂ b ob (fun q=>nb (by simp [q])) (fun q=>nb (by simp [q])) eb) fun b hb=>own b (by simpa using hb)
  intro s₂ es₂
  subst es₂
  refine wpAny_letOwnedTupleGo_enum heo fun h₃ he₃ hs₃=>⟨h₃,s₂.toks, ?_⟩
  have H₃ : S h₀ D env.locals m₁ l₁ h₃:=H₂.keepBut (X:=[I + 1]) (Sub.same hs₃) fun b hb=>own b (by simp at hb ⊢; exact .inr hb)
  obtain ⟨oe₃,hoe₃,hen₃⟩ : ∃ o,h₃.get? (I + 1) = some o ∧ ∀ h : Heap,h.get? (I + 1) = some o → IsEnum h (I + 1) I ((i + 1 : Nat) : Int) v:=⟨_,he₃,fun h q=>q⟩
  have hI3 : h₃.get? I = some o₂:=(hs₃.2 I ne.symm).trans ho₂
  have o1:=own I (by walk_at "ms")
  have o2:=own (I + 1) (by walk_at "ms")
  have H₃' : S h₀ D env.locals m₁ (l₁ ++ [(I,o₂),(I + 1,oe₃)]) h₃:=by
   have a1:=H₃.track hI3 o1.2.1 o1.2.2.1 o1.2.2.2
   have a2:=a1.track hoe₃ o2.2.1 o2.2.2.1 (by
    rw [List.map_append,List.mem_append]
    exact fun q=>q.elim o2.2.2.2 fun q=>ne (by simpa using q))
   rwa [List.append_assoc] at a2
  have htup : h₃.IsTuple s'.heap.objs.size #[.int i tk,v]:=by
   refine ⟨_,(hs₃.2 _ fun q => ?_).trans ht,rfl,_,rfl⟩
   have:=HS.led (I + 1,oe) (by walk_at "ms")
   rw [← q,hnewT] at this; cases this
  intro s₃ es₃
  subst es₃
  refine wpAny_assign_Tuple hh htup rfl rfl fun h₄ hx₄ => ?_
  have H₄:=H₃'.sub (h':=h₄) (fun b ob zz eb=>hx₄ b ob (fun q=>by rw [q,get_size_none] at eb; cases eb) eb)
  have step : T prog w A (assignInOrder ((assignEach [PySem.Expr.Name xi pi,.Name xv pv] env).map (·.2)) [.int i tk,v]) h₄ fun zz h₅=>S h₀ D env.locals (upd (upd m₁ xi (.int i tk)) xv v) (l₁ ++ [(I,o₂),(I + 1,oe₃)]) h₅:=by
   exact t_assignNames (px:=pi) e (xs:=[(xi,pi),(xv,pv)]) H₄ rfl (by
    intro x hx
    rcases List.mem_cons.mp hx with rfl | hx
    ·exact hxi
    ·rcases List.mem_singleton.mp hx with rfl
     exact hxv) fun h' H'=>H'
  refine wpAny_mono (step _ rfl) ?_ fun zz zz z=>z
  rintro _ s₅ ⟨h₅,t₅,H₅⟩
  refine ⟨h₅,t₅, ?_⟩
  refine (turn i v _ m₁ l₁ _ h₅ hv hlt hi H₅).mono fun f h₆ z => ?_
  have fin : (∃ m₂ l₂,Inv (i + 1) m₂ l₂ ∧ S h₀ D env.locals m₂ (l₂ ++ [(I,o₂),(I + 1,oe₃)]) h₆) → ∃ k',k' < k ∧ EnmD h₀ D env.locals I n (St I) Inv k' h₆:=by
   rintro ⟨m₂,l₂,i₂,H₆⟩
   exact ⟨k - 1,by omega,i + 1,m₂,l₂,_,_,v,by omega,i₂,H₆,W.at' hit₂ ho₂ (H₆.get (by walk_at "ms")) (hg _ _ _ _ _ i₂ H₆),hen₃ _ (H₆.get (by walk_at "ms"))⟩
  cases f with
  | next=>exact fin z
  | cont=>exact fin z
  | brk=>exact z
  | ret v=>exact z
 ·obtain rfl : i = n:=by omega
  refine wpAny_pyNext_enum_endD dr he hit fun h' hx=>⟨h',s'.toks, ?_⟩
  exact done m₁ l₁ h' hi ((HS.dropEnd (hD _ _ _ hi)).keepBut (Sub.ext hx) fun b hb=>HS.ownEnd (hD _ _ _ hi) b (by simp at hb ⊢; exact .inl hb))
noncomputable def chV (x : Str) (i : Nat) (v : Value) : Prop := ∃ c u,x.cps[i]? = some c ∧ v = .str ⟨#[c]⟩ u
theorem EnumOf.text {x : Str} {t : Tok} : EnumOf prog w (.str x t) x.cps.size (chV x) (fun zz=>True) (fun I i h=>h.IsStrIter I (strIterType x) x t i) (fun I=>[I]) where
 call:=fun zz k=>call_enumerate_str fun h' he hit hsz hk=>k h' he hit hsz hk
 draws:=fun {A I h} hh _ n0 n1=>by
  refine ⟨?_,fun z=>absurd (List.mem_singleton.mp z) (Nat.succ_ne_self I)⟩
  rcases (show strIterType x = "str_ascii_iterator" ∨ strIterType x = "str_iterator" by unfold strIterType; split <;> simp) with e | e
  ·rw [e]; exact Draws.strAscii (A:=A.in1) hh I x t
  ·rw [e]; exact Draws.strWide (A:=A.in1) hh I x t
 at':=fun st e e' zz=>let ⟨o,q,r⟩:=st; ⟨o,by rw [e'.trans (e.symm.trans q)],r⟩
end
end Mine
end
section
namespace Mine
noncomputable def EnumLoop (prog : Program) (w : World) (bv : Value) (nb : Nat) (Vb : Nat → Value → Prop) (Gb : Heap → Prop) : Prop := ∀ {A : Around} {h₀ h : Heap} {D : List Addr} {env : Env} {m : Str → Option Value} {l : List (Addr × Obj)} {xi xv : Str} {pi pv pt : Pos} {k1 : Nat} {body : List Stmt} {Q : Flow → Heap → Prop},
 EnvOk env → A.handled = none → env.kindOf xi = some .local → env.kindOf xv = some .local → S h₀ D env.locals m l h → ∀ (Inv : Nat → (Str → Option Value) → List (Addr × Obj) → Prop),(∀ i m l,Inv i m l → ∀ d ∈ D,d ∈ l.map (·.1)) →
 (∀ i m l h,Inv i m l → S h₀ D env.locals m l h → Gb h) → Inv 0 m l →
 (∀ i v t m₁ l₁ E h,Vb i v → i < nb → Inv i m₁ l₁ → S h₀ D env.locals (upd (upd m₁ xi (.int i t)) xv v) (l₁ ++ E) h → T prog w A (execs body env) h fun f h₃=>match f with
   | .next | .cont => ∃ m₂ l₂,Inv (i + 1) m₂ l₂ ∧ S h₀ D env.locals m₂ (l₂ ++ E) h₃
   | .brk=>Q .next h₃
   | .ret v=>Q (.ret v) h₃) →
 (∀ m₁ l₁ h,Inv nb m₁ l₁ → S h₀ D env.locals m₁ l₁ h → Q .next h) →
 T prog w A (PySem.call (.type "enumerate") [bv]) h fun ev h₁=>T prog w A (pyIter ev) h₁ fun it h₂=>TF prog w A (.forLoop (.Tuple [.Name xi pi,.Name xv pv] k1 pt) it body [] env) h₂ Q
structure SeqOk (prog : Program) (w : World) (bv : Value) (nb : Nat) (Vb : Nat → Value → Prop) (Gb : Heap → Prop) : Prop where
 en : EnumLoop prog w bv nb Vb Gb
 len : ∀ {A : Around} {h : Heap} {Q : Value → Heap → Prop},Gb h → (∀ t,Q (.int nb t) h) → T prog w A (PySem.call (.builtin "len") [bv]) h Q
 handed : handedIn bv = true
section
variable {prog : Program} {w : World} {A : Around} {h h' h₀ : Heap} {K : Type} [DecidableEq K] {knd : KeyKind prog w K}
noncomputable def popF (ks : List K) (aj : Bool) (k : K) : Bool:=aj && decide (200 ≤ ks.length) && decide (ks.length / 100 + 1 < (placesK ks k 0).length)
structure ChK (knd : KeyKind prog w K) (h h' : Heap) (ks : List K) (jk : K → Bool) (aj : Bool) (d dj dp : Addr) : Prop where
 dic : ∃ o kvs fam,h'.get? d = some o ∧ IsDicK knd o kvs ∧ FamK ks (fun k => !jk k && !popF ks aj k) kvs fam ∧ ∀ p ∈ fam,h'.get? p.1 = some p.2 ∧ h.get? p.1 = none
 lo : (d == sysModules) = false
 nd : h.get? d = none
 jun : ∃ o js,h'.get? dj = some o ∧ IsSetK knd o js ∧ ∀ k,k ∈ js ↔ k ∈ ks ∧ jk k = true
 nj : h.get? dj = none
 pop : ∃ o js,h'.get? dp = some o ∧ IsSetK knd o js ∧ ∀ k,k ∈ js ↔ k ∈ ks ∧ jk k = false ∧ popF ks aj k = true
 np : h.get? dp = none
theorem ItemsK.scan {nb : Nat} {Vb : Nat → Value → Prop} {ks : List K} (x : ItemsK knd nb Vb ks) (hsc : ∀ k v u,knd.is k v = true → knd.is k u = true → u.scannable = v.scannable) {k : K} (hk : k ∈ ks) {v : Value} (hv : knd.is k v = true) : v.scannable = true:=by
 obtain ⟨i,hi⟩:=List.mem_iff_getElem?.mp hk
 have hlt : i < nb:=by
  rw [x.len]
  exact (List.getElem?_eq_some_iff.mp hi).1
 obtain ⟨u,hu⟩:=x.ex i hlt
 obtain ⟨k',h1,h2,h3,_⟩:=x.at' i u hu
 rw [hi] at h1
 cases h1
 rw [hsc k u v h2 hv]; exact h3
theorem t_Dict0K {env : Env} {pos : Pos} {Q : Value → Heap → Prop} (q : ∀ a h' o,Sub [] h h' → h.get? a = none → h'.get? a = some o → IsDicK knd o [] → Q (.ref a) h') : T prog w A (eval (.Dict [] [] pos) env) h Q:=fun s es=>by
 subst es
 refine wpAny_Dict_empty ⟨_,s.toks,q _ _ _ (Sub.push _ _) (get_size_none _) (get_push_self _ _) ?_⟩
 exact ⟨#[],0,⟨rfl,rfl,rfl⟩,rfl,fun zz he=>by simp at he,.nil,.nil⟩
inductive EnInv (knd : KeyKind prog w K) (dx : Addr) (od : Obj) (d : Addr) (ks : List K) (m₀ : Str → Option Value) (i : Nat) (m : Str → Option Value) : List (Addr × Obj) → Prop
 | mk (ob : Obj) (kvs : List (K × Value)) (fam : List (Addr × Obj)) : IsDicK knd ob kvs → FamK (ks.take i) allK kvs fam → (∀ y,y ≠ (ofString "i") → y ≠ (ofString "elt") → y ≠ (ofString "indices") → m y = m₀ y) → EnInv knd dx od d ks m₀ i m ((dx,od) :: (d,ob) :: fam)
theorem sub_of {xs ys : List Str} (h : (ys.all fun y=>xs.contains y) = true) : ∀ y ∈ ys,y ∈ xs:=fun y hy=>by simpa using List.all_eq_true.mp h y hy
theorem hd_ne {p : Addr × Obj} {l : List (Addr × Obj)} {q : Addr × Obj} (nd : ((p :: l).map (·.1)).Nodup) (hq : q ∈ l) : p.1 ≠ q.1:=fun e=>(List.nodup_cons.mp nd).1 (by show p.1 ∈ _; rw [e]; exact List.mem_map_of_mem (f:=(·.1)) hq)
theorem allIn {α β : Type} {f : α → β} {x : α} {l : List α} (h : x ∈ l) : ∀ z ∈ [f x],z ∈ l.map f:=fun z hz=>by rw [List.mem_singleton.mp hz]; exact List.mem_map_of_mem h
theorem fn_chB (P : Params) : FnOk (frag P) at_SequenceMatcher_chain_b fdOf_SequenceMatcher_chain_b chB:=fn_chain_b P
theorem chain_bJ {aj : Bool} {x dx : Addr} {bv jv : Value} {od : Obj} {am : Str → Option Value} {nb : Nat} {Vb : Nat → Value → Prop} {ks : List K} {jk : K → Bool} {Gb Gj : Heap → Prop} {hb : Heap} {Q : Value → Heap → Prop} (G : Gr (frag w.params) hb) (B : Sub [] hb h) (hn : hb.get? dx = none) (hh : A.handled = none) (hroom : A.depth + 40 < recursionLimit) (hu : A.units + 80 < cLine)
  (ho : h.get? x = some (instObj aSM dx)) (hdx : h.get? dx = some od) (ia : IsAttrs attrN od am) (hab : am (ofString "b") = some bv) (hj : am (ofString "isjunk") = some jv) (hjh : handedIn jv = true) (haj : am (ofString "autojunk") = some (.bool aj))
  (sq : SeqOk prog w bv nb Vb Gb) (gb : ∀ h',Sub [dx] h h' → Gb h') (fj : (jv = .none ∧ ∀ k,jk k = false) ∨ Filt prog w knd jv jk Gj) (gj : ∀ h',Sub [dx] h h' → Gj h')
  (hi : ItemsK knd nb Vb ks) (hsc : ∀ k v u,knd.is k v = true → knd.is k u = true → u.scannable = v.scannable) (hz : ks.length < 4000)
  (q : ∀ h' od' d dj dp,Sub [dx] h h' → h'.get? dx = some od' → IsAttrs attrN od' (upd (upd (upd am (ofString "b2j") (.ref d)) (ofString "bjunk") (.ref dj)) (ofString "bpopular") (.ref dp)) → ChK knd h h' ks jk aj d dj dp → Q .none h') :
  TCP prog w A (.call (.ref at_SequenceMatcher_chain_b) ⟨[.ref x],[]⟩) h Q:=by
 refine TCP.def (binds:=[((ofString "self"),.ref x)]) [(dx,od)] (fn_chB w.params) (G.sub B) (by omega) (by kernel_rfl!) (by kernel_rfl!) (by simpa using hdx) (by walk_at "ms") fun h₁ L H => ?_
 have e:=(fn_chB w.params).ok L
 have hm : bindM [((ofString "self"),.ref x)] (ofString "self") = some (.ref x):=(upd_here : upd (fun zz=>none) (ofString "self") (.ref x) (ofString "self") = _)
 generalize bindM [((ofString "self"),Value.ref x)] = m at *
 have hk : ∀ y ∈ [(ofString "self"),(ofString "b"),(ofString "b2j"),(ofString "i"),(ofString "elt"),(ofString "indices"),(ofString "junk"),(ofString "isjunk"),(ofString "popular"),(ofString "n"),(ofString "ntest"),(ofString "idxs")],(callEnv fdOf_SequenceMatcher_chain_b L at_SequenceMatcher_chain_b).kindOf y = some .local:=by
  have : ([(ofString "self"),(ofString "b"),(ofString "b2j"),(ofString "i"),(ofString "elt"),(ofString "indices"),(ofString "junk"),(ofString "isjunk"),(ofString "popular"),(ofString "n"),(ofString "ntest"),(ofString "idxs")].all fun y=>decide ((callEnv fdOf_SequenceMatcher_chain_b L at_SequenceMatcher_chain_b).kindOf y = some .local)) = true:=by kernel_rfl!
  exact fun y hy=>of_decide_eq_true (List.all_eq_true.mp this y hy)
 have hg1 : (callEnv fdOf_SequenceMatcher_chain_b L at_SequenceMatcher_chain_b).kindOf (ofString "enumerate") = some .globalImplicit:=by kernel_rfl!
 have hg2 : (callEnv fdOf_SequenceMatcher_chain_b L at_SequenceMatcher_chain_b).kindOf (ofString "set") = some .globalImplicit:=by kernel_rfl!
 have hg3 : (callEnv fdOf_SequenceMatcher_chain_b L at_SequenceMatcher_chain_b).kindOf (ofString "len") = some .globalImplicit:=by kernel_rfl!
 generalize henv : callEnv fdOf_SequenceMatcher_chain_b L at_SequenceMatcher_chain_b = env at *
 have hL : L = env.locals:=by rw [← henv]; rfl
 subst hL
 have hdeep : (A.deeper env).depth = A.depth + 1 ∧ (A.deeper env).units ≤ A.units + 20:=by rw [← henv]; exact ⟨rfl,by first | exact Nat.le_refl _ | (show A.units + _ ≤ _; omega) | (simp [Around.deeper])⟩
 clear henv
 have hh' : (A.deeper env).handled = none:=hh
 generalize A.deeper env = A' at *
 have hxd : x ≠ dx:=inst_ne ho hdx ia
 have GG : ∀ {m l h₂},S h [dx] env.locals m l h₂ → Gr (frag w.params) h₂:=fun H=>gr_in G B hn H
 have Hx : ∀ {m l h₂},S h [dx] env.locals m l h₂ → h₂.get? x = some (instObj aSM dx):=fun H=>H.old ho (by simpa using hxd)
 have Gb' : ∀ {m l h₂},S h [dx] env.locals m l h₂ → Gb h₂:=fun H=>gb _ H.base
 have Gj' : ∀ {m l h₂},S h [dx] env.locals m l h₂ → Gj h₂:=fun H=>gj _ H.base
 replace H : S h [dx] env.locals m [(dx,od)] h₁:=H
 have low : ∀ {m l h₂ a},S h [dx] env.locals m l h₂ → h₂.get? a = none → (a == sysModules) = false:=fun H ha=>by
  have:=(GG H).k sysModules (PySem.W.boot_o_1 w.params) (by kernel_rfl!)
  refine beq_eq_false_iff_ne.mpr fun q => ?_
  rw [q,this] at ha; cases ha
 have P:=plainSM w.params
 refine TP.execs_cons (TP.of (T.Assign_Name (T.Attribute ?_)))
 refine T.Name e H hm ?_ (hk _ (by walk_at "ms")) (by decide +kernel)
 refine T.getAttr P (GG H).k ⟨Hx H,H.get (by walk_at "ms")⟩ ia hab (attrFind _ (by delta attrN; walk_at "mem")) sq.handed ?_
 refine T.storeName e H (fun h₂ H₂ => ?_) (hk _ (by walk_at "ms"))
 refine TP.execs_cons (TP.of (t_Assign2 (t_Dict0K (knd:=knd) fun d h₃ ob s₃ n₃ g₃ d₃=>t_assignAttr ?_)))
 have lo:=low H₂ n₃
 have H₃:=H₂.add s₃ n₃ g₃
 refine T.Name e H₃ (by walk_at "look") ?_ (hk _ (by walk_at "ms")) (by decide +kernel)
 refine T.setAttr P (GG H₃).k H₃ 1 rfl (Hx H₃) ia (attrTake _ (by delta attrN; walk_at "mem")) (fun h₄ od₄ H₄ zz ia₄ zz => ?_) (by delta attrN; walk_at "mem") (by decide)
 refine t_assignName e H₄ (fun h₅ H₅ => ?_) (hk _ (by walk_at "ms"))
 replace H₅ : S h [dx] env.locals _ [(d,ob),(dx,od₄)] h₅:=H₅
 have H₅':=H₅.perm (List.Perm.swap (dx,od₄) (d,ob) [])
 refine TP.execs_cons (TP.of (T.For (T.Call_Name ?_)))
 refine T.builtin (v := .type "enumerate") e (GG H₅) (by kernel_rfl!) (by kernel_rfl!) ?_ hg1 (by decide +kernel) (by decide +kernel)
 refine T.callWith ?_ rfl
 refine T.Name e H₅ (by walk_at "look") ?_ (hk _ (by walk_at "ms")) (by decide +kernel)
 refine ⟨Keeps.type, ?_⟩
 generalize hmm : upd (upd m (ofString "b") bv) (ofString "b2j") (Value.ref d) = m₅ at *
 have hm5 : m₅ (ofString "self") = some (.ref x):=by subst hmm; walk_at "look"
 have hm5b : m₅ (ofString "b") = some bv:=by subst hmm; walk_at "look"
 have hm5d : m₅ (ofString "b2j") = some (.ref d):=by subst hmm; walk_at "look"
 refine sq.en e hh' (hk _ (by walk_at "ms")) (hk _ (by walk_at "ms")) H₅' (EnInv knd dx od₄ d ks m₅) ?_ ?_ ?_ ?_ ?_
 ·rintro i m _ ⟨⟩ d hd
  exact List.mem_singleton.mp hd ▸ .head _
 ·rintro i m l h _ H
  exact Gb' H
 ·exact ⟨ob,[],[],d₃,⟨fun k hk=>(by simp at hk),fun k zz=>rfl,fun k k' a h=>(by cases h),by simp⟩,fun y zz zz zz=>rfl⟩
 ·rintro i v t m _ E h₆ hv _ ⟨ob,kvs,fam,hd,hf,hmy⟩ H₆
  obtain ⟨k,e1,e2,e3,e4⟩:=hi.at' i v hv
  have hi' : i < ks.length:=(List.getElem?_eq_some_iff.mp e1).1
  have hlen : (ks.take i).length = i:=by simp; omega
  have hmd : m (ofString "b2j") = some (.ref d):=by rw [hmy _ (by decide +kernel) (by decide +kernel) (by decide +kernel)]; exact hm5d
  refine (chain_turnK (x:=x) (t:=t) e (fun y hy=>hk y (sub_of (by decide +kernel) y hy)) e2 e4 hmd lo hd hf (by rw [hlen]; omega) (by rw [hlen]; exact H₆)).mono fun f h₇ z => ?_
  cases f with
  | next =>
   obtain ⟨m₂,ob',kvs',fam',hy,hd',hf',H₇⟩:=z
   refine ⟨m₂,(dx,od₄) :: (d,ob') :: fam',⟨ob',kvs',fam',hd', ?_,fun y n1 n2 n3=>(hy y n1 n2 n3).trans (hmy y n1 n2 n3)⟩,H₇⟩
   rw [List.take_add_one,e1]
   exact hf'
  | brk=>exact z.elim
  | cont=>exact z.elim
  | ret v=>exact z.elim
 ·rintro m _ h₆ ⟨ob,kvs,fam,hd,hf,hmy⟩ H₆
  rw [hi.len,List.take_length] at hf
  have ms : m (ofString "self") = some (.ref x):=by rw [hmy _ (by decide +kernel) (by decide +kernel) (by decide +kernel)]; exact hm5
  have mb : m (ofString "b") = some bv:=by rw [hmy _ (by decide +kernel) (by decide +kernel) (by decide +kernel)]; exact hm5b
  have md : m (ofString "b2j") = some (.ref d):=by rw [hmy _ (by decide +kernel) (by decide +kernel) (by decide +kernel)]; exact hm5d
  clear hmy
  have scn : ∀ k v,k ∈ kvs.map (·.1) → knd.is k v = true → v.scannable = true:=fun k v hk hv=>hi.scan hsc (hf.keys.mp hk).1 hv
  have klen:=hf.len
  have h4096 : scanBound = 4096:=rfl
  refine TP.execs_cons (TP.of (t_Assign2 (T.Call_Name ?_)))
  refine T.builtin (v := .type "set") e (GG H₆) (by kernel_rfl!) (by kernel_rfl!) ?_ hg2 (by decide +kernel) (by decide +kernel)
  refine T.callWith (es:=[]) ?_ rfl
  refine ⟨Keeps.type,t_setNew fun dj h₇ oj s₇ n₇ g₇ jset=>t_assignAttr ?_⟩
  have H₇:=H₆.add s₇ n₇ g₇
  refine T.Name e H₇ (by walk_at "look") ?_ (hk _ (by walk_at "ms")) (by decide +kernel)
  refine T.setAttr P (GG H₇).k H₇ 1 rfl (Hx H₇) ia₄ (attrTake _ (by delta attrN; walk_at "mem")) (fun h₈ od₈ H₈ zz ia₈ zz => ?_) (by delta attrN; walk_at "mem") (by decide)
  refine t_assignName e H₈ (fun h₉ H₉ => ?_) (hk _ (by walk_at "ms"))
  refine TP.execs_cons (TP.of (T.Assign_Name (T.Attribute ?_)))
  refine T.Name e H₉ (by walk_at "look") ?_ (hk _ (by walk_at "ms")) (by decide +kernel)
  refine T.getAttr P (GG H₉).k ⟨Hx H₉,H₉.get (by walk_at "ms")⟩ ia₈ (v:=jv) (by walk_at "look") (attrFind _ (by delta attrN; walk_at "mem")) hjh ?_
  refine T.storeName e H₉ (fun h₁₀ H₁₀ => ?_) (hk _ (by walk_at "ms"))
  replace H₁₀ : S h [dx] env.locals (upd (upd m (ofString "junk") (.ref dj)) (ofString "isjunk") jv) ((d,ob) :: (dj,oj) :: ((dx,od₈) :: fam)) h₁₀:=H₁₀.perm ((List.Perm.cons _ (List.Perm.swap _ _ _)).trans (List.Perm.swap _ _ _))
  generalize hM : upd (upd m (ofString "junk") (Value.ref dj)) (ofString "isjunk") jv = m₁₀ at *
  have M1 : m₁₀ (ofString "self") = some (.ref x):=by subst hM; walk_at "look"
  have M2 : m₁₀ (ofString "b") = some bv:=by subst hM; walk_at "look"
  have M3 : m₁₀ (ofString "b2j") = some (.ref d):=by subst hM; walk_at "look"
  have M4 : m₁₀ (ofString "junk") = some (.ref dj):=by subst hM; walk_at "look"
  have M5 : m₁₀ (ofString "isjunk") = some jv:=by subst hM; walk_at "look"
  clear hM
  have hRx : ∀ z ∈ [dx],z ∈ ((dx,od₈) :: fam).map (·.1):=allIn (f:=(·.1)) (x:=(dx,od₈)) (.head _)
  have fin2 : ∀ h' m' ob' kvs' oj' js,(∀ y,y ≠ (ofString "elt") → m' y = m₁₀ y) → IsDicK knd ob' kvs' → FamK ks (fun k => !jk k) kvs' fam → IsSetK knd oj' js → (∀ k,k ∈ js ↔ k ∈ ks ∧ jk k = true) → S h [dx] env.locals m' ((d,ob') :: (dj,oj') :: ((dx,od₈) :: fam)) h' →
    TP prog w A' (execs (chB.drop 6) env) h' (fun fl h'=>Q (match fl with | .ret v=>v | _ => .none) h'):=by
   intro h₁₁ m₁₁ ob₁ kvs₁ oj₁ js hmm hd₁ F₁ hs₁ hjs H₁₁
   have N1 : m₁₁ (ofString "self") = some (.ref x):=(hmm _ (by decide +kernel)).trans M1
   have N2 : m₁₁ (ofString "b") = some bv:=(hmm _ (by decide +kernel)).trans M2
   have N3 : m₁₁ (ofString "b2j") = some (.ref d):=(hmm _ (by decide +kernel)).trans M3
   refine TP.execs_cons (TP.of (t_Assign2 (T.Call_Name ?_)))
   refine T.builtin (v := .type "set") e (GG H₁₁) (by kernel_rfl!) (by kernel_rfl!) ?_ hg2 (by decide +kernel) (by decide +kernel)
   refine T.callWith (es:=[]) ?_ rfl
   refine ⟨Keeps.type,t_setNew fun dp h₁₂ op s₁₂ n₁₂ g₁₂ pset=>t_assignAttr ?_⟩
   have H₁₂:=H₁₁.add s₁₂ n₁₂ g₁₂
   refine T.Name e H₁₂ N1 ?_ (hk _ (by walk_at "ms")) (by decide +kernel)
   refine T.setAttr P (GG H₁₂).k H₁₂ 3 rfl (Hx H₁₂) ia₈ (attrTake _ (by delta attrN; walk_at "mem")) (fun h₁₃ od₁₃ H₁₃ zz ia₁₃ zz => ?_) (by delta attrN; walk_at "mem") (by decide)
   refine t_assignName e H₁₃ (fun h₁₄ H₁₄ => ?_) (hk _ (by walk_at "ms"))
   replace H₁₄ : S h [dx] env.locals (upd m₁₁ (ofString "popular") (.ref dp)) ((d,ob₁) :: (dp,op) :: ((dx,od₁₃) :: (dj,oj₁) :: fam)) h₁₄:=H₁₄.perm ((List.Perm.swap _ _ _).trans (List.Perm.cons _ (List.Perm.cons _ (List.Perm.swap _ _ _))))
   refine TP.execs_cons (TP.of (T.Assign_Name (T.Call_Name ?_)))
   refine T.builtin (v := .builtin "len") e (GG H₁₄) (by kernel_rfl!) (by kernel_rfl!) ?_ hg3 (by decide +kernel) (by decide +kernel)
   refine T.callWith ?_ rfl
   refine T.Name e H₁₄ (upd_next (by decide +kernel) N2) ?_ (hk _ (by walk_at "ms")) (by decide +kernel)
   refine ⟨Keeps.builtin,sq.len (Gb' H₁₄) fun t => ?_⟩
   refine T.storeName e H₁₄ (fun h₁₅ H₁₅ => ?_) (hk _ (by walk_at "ms"))
   have fin3 : ∀ h' m' ob' kvs' op' ps,IsDicK knd ob' kvs' → FamK ks (fun k => !jk k && !popF ks aj k) kvs' fam → IsSetK knd op' ps → (∀ k,k ∈ ps ↔ k ∈ ks ∧ jk k = false ∧ popF ks aj k = true) → S h [dx] env.locals m' ((d,ob') :: (dp,op') :: ((dx,od₁₃) :: (dj,oj₁) :: fam)) h' → Q .none h':=by
    intro h' m' ob' kvs' op' ps z1 z2 z3 z4 HH
    have nd1:=HH.nodup
    have nd2:=(List.nodup_cons.mp nd1).2
    have nd3:=(List.nodup_cons.mp nd2).2
    have own : ∀ p,p ∈ (d,ob') :: (dp,op') :: ((dx,od₁₃) :: (dj,oj₁) :: fam) → p.1 ≠ dx → h.get? p.1 = none:=fun p hm hne=>(HH.own p hm).resolve_left fun z=>hne (List.mem_singleton.mp z)
    exact q h' od₁₃ d dj dp HH.base (HH.get (.tail _ (.tail _ (.head _)))) ia₁₃ ⟨⟨ob',kvs',fam,HH.get (.head _),z1,z2,fun p hp=>⟨HH.led p (.tail _ (.tail _ (.tail _ (.tail _ hp)))),own p (.tail _ (.tail _ (.tail _ (.tail _ hp)))) (hd_ne nd3 (.tail _ hp)).symm⟩⟩,lo,own _ (.head _) (hd_ne nd1 (q:=(dx,od₁₃)) (.tail _ (.head _))),⟨oj₁,js,HH.get (.tail _ (.tail _ (.tail _ (.head _)))),hs₁,hjs⟩,own _ (.tail _ (.tail _ (.tail _ (.head _)))) (hd_ne nd3 (q:=(dj,oj₁)) (.head _)).symm,⟨op',ps,HH.get (.tail _ (.head _)),z3,z4⟩,own _ (.tail _ (.head _)) (hd_ne nd2 (q:=(dx,od₁₃)) (.head _))⟩
   have notPop : popF ks aj = (fun zz=>false) → TP prog w A' (execs [] env) h₁₅ (fun f h'=>match f with | .next=>TP prog w A' (execs [] env) h' (fun fl h'=>Q (match fl with | .ret v=>v | _ => .none) h') | f=>Q (match f with | .ret v=>v | _ => .none) h'):=fun hp=>by
    refine TP.execs_nil (TP.execs_nil (fin3 h₁₅ _ ob₁ kvs₁ op [] hd₁ (F₁.same fun k zz=>by rw [hp]; simp) (pset K knd) (fun k=>by rw [hp]; simp) H₁₅))
   refine TP.execs_cons (TP.If (TP.of (t_isTrue_and (t_isTrue_plain (T.Attribute ?_)))))
   refine T.Name e H₁₅ (upd_next (by decide +kernel) (upd_next (by decide +kernel) N1)) ?_ (hk _ (by walk_at "ms")) (by decide +kernel)
   refine T.getAttr P (GG H₁₅).k ⟨Hx H₁₅,H₁₅.get (by walk_at "ms")⟩ ia₁₃ (v := .bool aj) (by walk_at "look") (attrFind _ (by delta attrN; walk_at "mem")) rfl ?_
   refine T.truthy_bool ?_
   cases hajv : aj with
   | false =>
    rw [if_neg Bool.false_ne_true,if_neg Bool.false_ne_true]
    exact notPop (by rw [hajv]; rfl)
   | true =>
    rw [if_pos rfl]
    refine t_isTrue_and (T.isTrue_Compare ?_)
    refine T.Name e H₁₅ upd_here ?_ (hk _ (by walk_at "ms")) (by decide +kernel)
    refine T.cInt fun t2=>T.ge (T.truthy_bool ?_)
    by_cases hn : 200 ≤ ks.length
    ·have hvl:=hi.len
     rw [if_pos (by rw [decide_eq_true_eq]; omega)]
     refine t_isTrue_and0 ?_
     rw [if_pos rfl]
     have pf : ∀ k,popF ks aj k = decide (ks.length / 100 + 1 < (placesK ks k 0).length):=fun k=>by rw [hajv]; simp [popF,hn]
     refine TP.execs_cons (TP.of (T.Assign_Name (T.BinOp (T.BinOp ?_))))
     refine T.Name e H₁₅ upd_here ?_ (hk _ (by walk_at "ms")) (by decide +kernel)
     refine T.cInt fun t3=>T.fdiv (by decide) (by decide) fun t4=>T.cInt fun t5=>T.add fun t6 => ?_
     have hT : ((nb : Int).fdiv 100 + 1) = ((ks.length / 100 + 1 : Nat) : Int):=by
      rw [hvl,Int.fdiv_eq_ediv_of_nonneg _ (by decide)]; omega
     rw [hT]
     refine T.storeName e H₁₅ (fun h₁₆ H₁₆ => ?_) (hk _ (by walk_at "ms"))
     refine TP.execs_cons (TP.of (items_loop (Kf:=frag w.params) e hh' (hk _ (by walk_at "ms")) (hk _ (by walk_at "ms")) (hk _ (by walk_at "ms")) (hk _ (by walk_at "ms")) (hk _ (by walk_at "ms")) hg3 (fun m l h H=>GG H) (by kernel_rfl!) (upd_next (by decide +kernel) (upd_next (by decide +kernel) (upd_next (by decide +kernel) N3))) (upd_next (by decide +kernel) (upd_next (by decide +kernel) upd_here)) upd_here lo hd₁ F₁ (pset K knd) (by omega) (fun k v hk hv=>hi.scan hsc (F₁.keys.mp hk).1 hv) (allIn (f:=(·.1)) (x:=(dx,od₁₃)) (.head _)) (fun p hp => .tail _ (.tail _ hp)) H₁₆ fun h₁₇ m₁₇ op₁ ps hm₁₇ hs₁₇ hps H₁₇ => ?_))
     have lk : ∀ y,y ≠ (ofString "elt") → y ≠ (ofString "idxs") → m₁₇ y = _:=hm₁₇
     refine TP.execs_cons (del_loop (nm:=(ofString "popular")) e hh' (hk _ (by walk_at "ms")) (hk _ (by walk_at "ms")) (hk _ (by walk_at "ms")) (by decide +kernel) (by decide +kernel) ((lk _ (by decide +kernel) (by decide +kernel)).trans (upd_next (by decide +kernel) (upd_next (by decide +kernel) (upd_next (by decide +kernel) N3)))) ((lk _ (by decide +kernel) (by decide +kernel)).trans (upd_next (by decide +kernel) (upd_next (by decide +kernel) upd_here))) hd₁ F₁ (by omega) hs₁₇ (fun k hk=>((hps k).mp hk).1) (allIn (f:=(·.1)) (x:=(dx,od₁₃)) (.head _)) H₁₇ fun h₁₈ m₁₈ ob₂ kvs₂ hm₂ hd₂ F₂ H₁₈ => ?_)
     refine TP.execs_nil (TP.execs_nil (fin3 h₁₈ m₁₈ ob₂ kvs₂ op₁ ps hd₂ (F₂.same fun k hk => ?_) hs₁₇ (fun k => ?_) H₁₈))
     ·have:=hps k
      rw [pf k]
      cases hjk : jk k with
      | true=>simp
      | false =>
       by_cases hq : ks.length / 100 + 1 < (placesK ks k 0).length
       ·have hm : k ∈ ps:=this.mpr ⟨⟨hk,by rw [hjk]; rfl⟩,hq⟩
        simp [hq,hm]
       ·have hm : k ∉ ps:=fun z=>hq (this.mp z).2
        simp only [hm,hq,not_false_eq_true,decide_true,decide_false]
        rfl
     ·rw [hps k,pf k]
      simp [and_assoc]
    ·have hvl:=hi.len
     rw [if_neg (by rw [decide_eq_true_eq]; omega),if_neg Bool.false_ne_true]
     exact notPop (by funext k; simp [popF,hn])
  refine TP.execs_cons (TP.If (TP.of (t_isTrue_plain ?_)))
  refine T.Name e H₁₀ M5 ?_ (hk _ (by walk_at "ms")) (by decide +kernel)
  rcases fj with ⟨rfl,hno⟩ | fl
  ·refine t_truthy_none ?_
   rw [if_neg Bool.false_ne_true]
   exact TP.execs_nil (fin2 h₁₀ m₁₀ ob kvs oj [] (fun y zz=>rfl) hd (hf.same fun k zz=>by rw [hno k]; rfl) (jset K knd) (fun k=>by rw [hno k]; simp) H₁₀)
  ·obtain ⟨f,hfe,hfo⟩:=fl.fn
   have hfe':=hfe
   subst hfe'
   obtain ⟨of,gof,cof⟩:=hfo _ (Gj' H₁₀)
   refine t_truthyFn gof cof ?_
   rw [if_pos rfl]
   refine TP.execs_cons (TP.of (key_loop e hh' (by omega) (by omega) (hk _ (by walk_at "ms")) (hk _ (by walk_at "ms")) (hk _ (by walk_at "ms")) (hk _ (by walk_at "ms")) M3 M4 M5 lo hd (jset K knd) (by omega) fl (fun m l h H=>Gj' H) scn hRx H₁₀ fun h₁₁ m₁₁ oj₁ js hm₁ hs₁ hjs H₁₁ => ?_))
   have hjs' : ∀ k,k ∈ js ↔ k ∈ ks ∧ jk k = true:=fun k=>by rw [hjs k,hf.keys]; simp
   refine TP.execs_cons (del_loop (nm:=(ofString "junk")) e hh' (hk _ (by walk_at "ms")) (hk _ (by walk_at "ms")) (hk _ (by walk_at "ms")) (by decide +kernel) (by decide +kernel) ((hm₁ _ (by decide +kernel)).trans M3) ((hm₁ _ (by decide +kernel)).trans M4) hd hf (by omega) hs₁ (fun k hk=>⟨((hjs' k).mp hk).1,rfl⟩) hRx H₁₁ fun h₁₂ m₁₂ ob₁ kvs₁ hm₂ hd₁ F₁ H₁₂ => ?_)
   refine TP.execs_nil (fin2 h₁₂ m₁₂ ob₁ kvs₁ oj₁ js (fun y hy=>(hm₂ y hy).trans (hm₁ y hy)) hd₁ (F₁.same fun k hk => ?_) hs₁ hjs' H₁₂)
   have:=hjs' k
   cases hjk : jk k with
   | true=>simp [this,hk,hjk]
   | false=>simp [this,hjk]
end
end Mine
end
section
namespace Mine
section
variable {prog : Program} {w : World} {A : Around} {h h' h₀ : Heap} {env : Env} {D : List Addr} {L : Addr} {m m' : Str → Option Value} {l l' : List (Addr × Obj)} {Kf : Frag} {C : Addr}
theorem TCP.defB {f : Addr} {fd : FuncData} {body : List Stmt} {args : Args} {binds : List (Str × Value)} {Q : Value → Heap → Prop} (lD : List (Addr × Obj)) (F : FnOk Kf f fd body) (G : Gr Kf h) (hroom : A.depth < recursionLimit)
  (hbind : ∀ s : Shared,s.heap = h → BindsTo s fd args binds) (hloc : (binds.map (·.1)).all (fun x=>decide (fd.scope.names.lookup x = some .local)) = true) (hl : ∀ p ∈ lD,h.get? p.1 = some p.2) (nd : (lD.map (·.1)).Nodup)
  (k : ∀ h₁ L,S h (lD.map (·.1)) L (bindM binds) lD h₁ → TP prog w (A.deeper (callEnv fd L f)) (execs body (callEnv fd L f)) h₁ fun fl h'=>Q (match fl with | .ret v=>v | _ => .none) h') : TCP prog w A (.call (.ref f) args) h Q:=fun s e hp=>by
 subst e
 obtain ⟨o,ho,hd⟩:=F.lk
 refine codeAny_call_def (binds:=binds) hroom (G.k _ _ ho) hd G.nolimit (codeRec_of G.k F.cd) F.body (hbind _ rfl) (fun x hx => ?_) (fun x hx => ?_) (fun h₁ hns hkeep => ?_) F.co F.gen F.kind
 ·have:=List.all_eq_true.mp F.cell x hx
  simpa using this
 ·have:=List.all_eq_true.mp hloc x.1 (List.mem_map_of_mem hx)
  exact of_decide_eq_true this
 have H : S s.heap (lD.map (·.1)) s.heap.objs.size (bindM binds) lD h₁:={
  base:=fun b o zz e=>hkeep b o e
  ns:=by rw [← bindM_eq]; exact hns
  led:=fun p hp=>hkeep _ _ (hl p hp)
  own:=fun p hp => .inl (List.mem_map_of_mem hp)
  nodup:=nd
  offL:=fun q=>by
   obtain ⟨p,hp,e⟩:=List.mem_map.mp q
   have:=hl p hp
   rw [e,get_size_none] at this; cases this
  newL:=get_size_none _
  dl:=fun d hd=>hd }
 refine wpAny_mono (k h₁ _ H _ rfl (hp.up (by dsimp only; omega))) (by
  rintro fl s' ⟨h',tk,gs,mk,q⟩
  exact ⟨_,_,_,_,mk,q⟩) fun zz zz z=>z.elim
theorem TCP.make {rest : List Value} {fI : Addr} {Q : Value → Heap → Prop} (X : Kf.In h) (hm : makesIn Kf C = true) (hi : findIn Kf (.ref C) "__init__" = some (some (.ref fI))) (hf : typeIn Kf (.ref fI) = some (.type "function")) (hn : h.Ns L m)
  (q : ∀ x dx h',Sub [L] h h' → h'.Ns L m → h'.get? x = some (instObj C dx) → h'.get? dx = some (dictOf [] 0) → h.get? x = none → h.get? dx = none →
   TCP prog w (A.under (.builtin "type.__call__" ⟨.ref C :: rest,[]⟩)) (.call (.ref fI) ⟨.ref x :: rest,[]⟩) h' fun v h''=>v = .none ∧ Q (.ref x) h'') : TCP prog w A (.call (.ref C) ⟨rest,[]⟩) h Q:=fun s es hp=>by
 subst es
 refine make_K (frAll hn) newsAll X hm hi hf fun x dx h' F' N' lt1 lt2 => ?_
 have hdx : s.heap.get? dx = none:=by
  cases e : s.heap.get? dx with
  | none=>rfl
  | some o =>
   by_cases hL : dx = L
   ·have:=(N' (dx,_) (.tail _ (.head _))).2.1
    exact absurd hL this
   ·exact absurd (lt1 (dx,o) (mem_allBut.mpr ⟨hL,e⟩)) (Nat.lt_irrefl _)
 have hx : s.heap.get? x = none:=by
  cases e : s.heap.get? x with
  | none=>rfl
  | some o =>
   by_cases hL : x = L
   ·exact absurd hL (N' (x,_) (.head _)).2.1
   ·have:=lt1 (x,o) (mem_allBut.mpr ⟨hL,e⟩)
    exact absurd this (Nat.lt_asymm lt2)
 refine codeAny_mono (q x dx h' (sub_of_news (extra:=[_,_]) N') F'.ns (N' _ (.head _)).1 (N' _ (.tail _ (.head _))).1 hx hdx _ rfl hp) ?_
 rintro r s' ⟨v,h'',tk,gs,mk,e,z⟩
 exact ⟨e,_,_,_,gs,mk,z⟩
end
section
variable {prog : Program} {w : World} {A : Around} {h h' h₀ : Heap} {K : Type} [DecidableEq K] {knd : KeyKind prog w K}
theorem ChK.back {h h₁ h' : Heap} {ks : List K} {jk : K → Bool} {aj : Bool} {d dj dp : Addr} {D : List Addr} (x : ChK knd h₁ h' ks jk aj d dj dp) (s : Sub D h h₁) (g : ∀ a ∈ D,h₁.get? a ≠ none) : ChK knd h h' ks jk aj d dj dp:=by
 have k : ∀ a,h₁.get? a = none → h.get? a = none:=fun a e=>by
  cases q : h.get? a with
  | none=>rfl
  | some o =>
   have : a ∉ D:=fun m=>g a m e
   rw [s a o this q] at e; cases e
 obtain ⟨o,kvs,fam,h1,h2,h3,h4⟩:=x.dic
 exact ⟨⟨o,kvs,fam,h1,h2,h3,fun p hp=>⟨(h4 p hp).1,k _ (h4 p hp).2⟩⟩,x.lo,k _ x.nd,x.jun,k _ x.nj,x.pop,k _ x.np⟩
theorem set_seq2J {aj : Bool} {x dx : Addr} {u bv jv : Value} {nb : Nat} {Vb : Nat → Value → Prop} {ks : List K} {jk : K → Bool} {Gb Gj : Heap → Prop} {od : Obj} {am : Str → Option Value} {hb : Heap} {Q : Value → Heap → Prop} (G : Gr (frag w.params) hb) (B : Sub [] hb h) (hn : hb.get? dx = none) (hh : A.handled = none) (hroom : A.depth + 43 < recursionLimit) (hun : A.units + 110 < cLine)
  (ho : h.get? x = some (instObj aSM dx)) (hdx : h.get? dx = some od) (ia : IsAttrs attrN od am) (ha : am (ofString "b") = some u) (hu : handedIn u = true) (hd : Differs h bv u) (nv : ∀ a,bv = .ref a → a ≠ dx) (nu : u ≠ .ref dx)
  (hj : am (ofString "isjunk") = some jv) (hjh : handedIn jv = true) (haj : am (ofString "autojunk") = some (.bool aj)) (hmeth : am (ofString "_SequenceMatcher__chain_b") = none)
  (sq : SeqOk prog w bv nb Vb Gb) (gb : ∀ h',Sub [dx] h h' → Gb h') (fj : (jv = .none ∧ ∀ k,jk k = false) ∨ Filt prog w knd jv jk Gj) (gj : ∀ h',Sub [dx] h h' → Gj h')
  (hi : ItemsK knd nb Vb ks) (hsc : ∀ k v u,knd.is k v = true → knd.is k u = true → u.scannable = v.scannable) (hz : ks.length < 4000)
  (q : ∀ h' od' d dj dp,Sub [dx] h h' → h'.get? dx = some od' → IsAttrs attrN od' (am2 am bv d dj dp) → ChK knd h h' ks jk aj d dj dp → Q .none h') :
  TCP prog w A (.call (.ref at_SequenceMatcher_set_seq2) ⟨[.ref x,bv],[]⟩) h Q:=by
 refine TCP.def (binds:=[((ofString "self"),.ref x),((ofString "b"),bv)]) [(dx,od)] (fn_set_seq2 w.params) (G.sub B) (by omega) (by kernel_rfl!) (by kernel_rfl!) (by simpa using hdx) (by walk_at "ms") fun h₁ L H => ?_
 have e:=(fn_set_seq2 w.params).ok L
 have k1 : (callEnv fdOf_SequenceMatcher_set_seq2 L at_SequenceMatcher_set_seq2).kindOf (ofString "self") = some .local:=by kernel_rfl!
 have k2 : (callEnv fdOf_SequenceMatcher_set_seq2 L at_SequenceMatcher_set_seq2).kindOf (ofString "b") = some .local:=by kernel_rfl!
 replace H : S h [dx] L (upd (upd (fun zz=>none) (ofString "self") (.ref x)) (ofString "b") bv) [(dx,od)] h₁:=H
 generalize henv : callEnv fdOf_SequenceMatcher_set_seq2 L at_SequenceMatcher_set_seq2 = env at *
 have hL : L = env.locals:=by rw [← henv]; rfl
 subst hL
 have hdeep : (A.deeper env).depth = A.depth + 1 ∧ (A.deeper env).units ≤ A.units + 20:=by rw [← henv]; exact ⟨rfl,by first | exact Nat.le_refl _ | (show A.units + _ ≤ _; omega) | (simp [Around.deeper])⟩
 clear henv
 have hh' : (A.deeper env).handled = none:=hh
 generalize A.deeper env = A' at *
 have hxd:=inst_ne ho hdx ia
 have GG : ∀ {m l h₂},S h [dx] env.locals m l h₂ → Gr (frag w.params) h₂:=fun H=>gr_in G B hn H
 have Hx : ∀ {m l h₂},S h [dx] env.locals m l h₂ → h₂.get? x = some (instObj aSM dx):=fun H=>H.old ho (by simpa using hxd)
 have P:=plainSM w.params
 refine TP.execs_cons (TP.of (T.Expr (T.cStr fun t=>⟨(fun b q=>by cases q), ?_⟩) e.inter))
 refine TP.execs_cons (TP.If (TP.of (T.isTrue_Compare ?_)))
 walk_at "nm"
 refine T.Attribute ?_
 walk_at "nm"
 refine T.getAttr P (GG H).k ⟨Hx H,H.get (by walk_at "ms")⟩ ia ha (attrFind _ (by delta attrN; walk_at "mem")) hu ?_
 refine t_is_no (hd.sub (D:=[dx]) H.base (fun a q=>by simpa using nv a q) (fun a q=>by subst q; simpa using fun z=>nu (by rw [z]))) ?_
 refine T.truthy_bool ?_
 refine TP.execs_nil ?_
 refine TP.execs_cons (TP.of (t_Assign_Attr ?_))
 walk_at "nm"
 walk_at "nm"
 refine T.setAttr P (GG H).k H 0 rfl (Hx H) ia (attrTake _ (by delta attrN; walk_at "mem")) (fun h₂ od₂ H₂ zz ia₂ zz => ?_) (by delta attrN; walk_at "mem") (by decide)
 refine TP.execs_cons (TP.of (t_Assign2 (T.cNone (t_assignAttr ?_))))
 walk_at "nm"
 refine T.setAttr P (GG H₂).k H₂ 0 rfl (Hx H₂) ia₂ (attrTake _ (by delta attrN; walk_at "mem")) (fun h₃ od₃ H₃ zz ia₃ zz=>t_assignAttr ?_) (by delta attrN; walk_at "mem") (by decide)
 walk_at "nm"
 refine T.setAttr P (GG H₃).k H₃ 0 rfl (Hx H₃) ia₃ (attrTake _ (by delta attrN; walk_at "mem")) (fun h₄ od₄ H₄ zz ia₄ zz => ?_) (by delta attrN; walk_at "mem") (by decide)
 refine TP.execs_cons (TP.of (t_Assign_Attr (T.cNone ?_)))
 walk_at "nm"
 refine T.setAttr P (GG H₄).k H₄ 0 rfl (Hx H₄) ia₄ (attrTake _ (by delta attrN; walk_at "mem")) (fun h₅ od₅ H₅ zz ia₅ zz => ?_) (by delta attrN; walk_at "mem") (by decide)
 refine TP.execs_cons (TP.Expr (TP.Call_method ?_) e.inter)
 walk_at "np"
 refine TP.of (T.getMeth (f:=at_SequenceMatcher_chain_b) P (GG H₅).k ⟨Hx H₅,H₅.get (by walk_at "ms")⟩ ia₅ (by walk_at "look") (by kernel_rfl!) (by kernel_rfl!) ?_)
 refine TP.callWith (es:=[]) ⟨Keeps.frag (GG H₅).k (by kernel_rfl!),TP.call ?_⟩ rfl
 have B₅ : Sub [] hb h₅:=fun b o zz eb=>H₅.base b o (fun q=>by
  obtain rfl : b = dx:=by simpa using q
  rw [hn] at eb; cases eb) (B b o (by walk_at "ms") eb)
 refine chain_bJ (knd:=knd) (ks:=ks) (nb:=nb) (Vb:=Vb) (bv:=bv) (jv:=jv) (aj:=aj) (jk:=jk) (Gb:=Gb) (Gj:=Gj) G B₅ hn hh' (by omega) (by omega) (Hx H₅) (H₅.get (by walk_at "ms")) ia₅ (by walk_at "look") (by walk_at "look") hjh (by walk_at "look") sq (fun h' s=>gb h' (H₅.base.trans s)) fj (fun h' s=>gj h' (H₅.base.trans s)) hi hsc hz fun h₆ od₆ d dj dp s₆ g₆ ia₆ b₆=>⟨(fun b q=>by cases q), ?_⟩
 exact TP.execs_nil (q h₆ od₆ d dj dp (H₅.base.trans s₆) g₆ ia₆ (b₆.back H₅.base (fun a m z=>by rw [List.mem_singleton.mp m,H₅.get (o:=od₅) (by walk_at "ms")] at z; cases z)))
end
end Mine
end
section
namespace Mine
section
variable {prog : Program} {w : World} {A : Around} {h h' h₀ : Heap} {K : Type} [DecidableEq K] {knd : KeyKind prog w K}
noncomputable def amJ (jv av bv : Value) (aj : Bool) (d dj dp : Addr) : Str → Option Value :=
 am2 (upd (upd (upd (upd (upd (upd (upd (fun zz=>none) (ofString "isjunk") jv) (ofString "a") .none) (ofString "b") .none) (ofString "autojunk") (.bool aj)) (ofString "a") av) (ofString "matching_blocks") .none) (ofString "opcodes") .none) bv d dj dp
structure Handed (h : Heap) (dx : Addr) (v : Value) : Prop where
 pl : plainIs v .none = true
 ne : v ≠ .none
 off : v ≠ .ref dx
theorem Handed.differs {dx : Addr} {v : Value} (x : Handed h dx v) {h₂ : Heap} : Differs h₂ v .none := .inl ⟨x.pl,x.ne⟩
theorem initJ {aj : Bool} {x dx : Addr} {jv av bv : Value} {nb : Nat} {Vb : Nat → Value → Prop} {ks : List K} {jk : K → Bool} {Gb Gj : Heap → Prop} {hb : Heap} {args : Args} {Q : Value → Heap → Prop} (G : Gr (frag w.params) hb) (B : Sub [] hb h) (hn : hb.get? dx = none) (hh : A.handled = none) (hroom : A.depth + 50 < recursionLimit) (hun : A.units + 180 < cLine)
  (hbind : ∀ s : Shared,s.heap = h → BindsTo s fdOf_SequenceMatcher_init args [((ofString "self"),.ref x),((ofString "isjunk"),jv),((ofString "a"),av),((ofString "b"),bv),((ofString "autojunk"),.bool aj)])
  (ho : h.get? x = some (instObj aSM dx)) (hdx : h.get? dx = some (dictOf [] 0)) (ha : Handed h dx av) (hbv : Handed h dx bv) (hjh : handedIn jv = true)
  (sq : SeqOk prog w bv nb Vb Gb) (gb : ∀ h',Sub [dx] h h' → Gb h') (fj : (jv = .none ∧ ∀ k,jk k = false) ∨ Filt prog w knd jv jk Gj) (gj : ∀ h',Sub [dx] h h' → Gj h')
  (hi : ItemsK knd nb Vb ks) (hsc : ∀ k v u,knd.is k v = true → knd.is k u = true → u.scannable = v.scannable) (hz : ks.length < 4000)
  (q : ∀ h' od' d dj dp,Sub [dx] h h' → h'.get? dx = some od' → IsAttrs attrN od' (amJ jv av bv aj d dj dp) → ChK knd h h' ks jk aj d dj dp → Q .none h') :
  TCP prog w A (.call (.ref at_SequenceMatcher_init) args) h Q:=by
 have ia : IsAttrs attrN (dictOf [] 0) fun zz=>none:=IsAttrs.nil
 refine TCP.defB (binds:=[((ofString "self"),.ref x),((ofString "isjunk"),jv),((ofString "a"),av),((ofString "b"),bv),((ofString "autojunk"),.bool aj)]) [(dx,dictOf [] 0)] (fn_init w.params) (G.sub B) (by omega) hbind (by kernel_rfl!) (by simpa using hdx) (by walk_at "ms") fun h₁ L H => ?_
 have e:=(fn_init w.params).ok L
 have k1 : (callEnv fdOf_SequenceMatcher_init L at_SequenceMatcher_init).kindOf (ofString "self") = some .local:=by kernel_rfl!
 have k2 : (callEnv fdOf_SequenceMatcher_init L at_SequenceMatcher_init).kindOf (ofString "a") = some .local:=by kernel_rfl!
 have k3 : (callEnv fdOf_SequenceMatcher_init L at_SequenceMatcher_init).kindOf (ofString "b") = some .local:=by kernel_rfl!
 have k4 : (callEnv fdOf_SequenceMatcher_init L at_SequenceMatcher_init).kindOf (ofString "isjunk") = some .local:=by kernel_rfl!
 have k5 : (callEnv fdOf_SequenceMatcher_init L at_SequenceMatcher_init).kindOf (ofString "autojunk") = some .local:=by kernel_rfl!
 replace H : S h [dx] L (upd (upd (upd (upd (upd (fun zz=>none) (ofString "self") (.ref x)) (ofString "isjunk") jv) (ofString "a") av) (ofString "b") bv) (ofString "autojunk") (.bool aj)) [(dx,dictOf [] 0)] h₁:=H
 generalize henv : callEnv fdOf_SequenceMatcher_init L at_SequenceMatcher_init = env at *
 have hL : L = env.locals:=by rw [← henv]; rfl
 subst hL
 have hdeep : (A.deeper env).depth = A.depth + 1 ∧ (A.deeper env).units ≤ A.units + 20:=by rw [← henv]; exact ⟨rfl,by first | exact Nat.le_refl _ | (show A.units + _ ≤ _; omega) | (simp [Around.deeper])⟩
 clear henv
 have hh' : (A.deeper env).handled = none:=hh
 generalize A.deeper env = A' at *
 have hxd:=inst_ne ho hdx ia
 have GG : ∀ {m l h₂},S h [dx] env.locals m l h₂ → Gr (frag w.params) h₂:=fun H=>gr_in G B hn H
 have Hx : ∀ {m l h₂},S h [dx] env.locals m l h₂ → h₂.get? x = some (instObj aSM dx):=fun H=>H.old ho (by simpa using hxd)
 have BB : ∀ {m l h₂},S h [dx] env.locals m l h₂ → Sub [] hb h₂:=fun H b o zz eb=>H.base b o (fun q=>by
  obtain rfl : b = dx:=by simpa using q
  rw [hn] at eb; cases eb) (B b o (by walk_at "ms") eb)
 have P:=plainSM w.params
 refine TP.execs_cons (TP.of (T.Expr (T.cStr fun t=>⟨(fun b q=>by cases q), ?_⟩) e.inter))
 refine TP.execs_cons (TP.of (t_Assign_Attr ?_))
 walk_at "nm"
 walk_at "nm"
 refine T.setAttr P (GG H).k H 0 rfl (Hx H) ia (attrTake _ (by delta attrN; walk_at "mem")) (fun h₂ od₂ H₂ zz ia₂ zz => ?_) (by delta attrN; walk_at "mem") (by decide)
 refine TP.execs_cons (TP.of (t_Assign2 (T.cNone (t_assignAttr ?_))))
 walk_at "nm"
 refine T.setAttr P (GG H₂).k H₂ 0 rfl (Hx H₂) ia₂ (attrTake _ (by delta attrN; walk_at "mem")) (fun h₃ od₃ H₃ zz ia₃ zz=>t_assignAttr ?_) (by delta attrN; walk_at "mem") (by decide)
 walk_at "nm"
 refine T.setAttr P (GG H₃).k H₃ 0 rfl (Hx H₃) ia₃ (attrTake _ (by delta attrN; walk_at "mem")) (fun h₄ od₄ H₄ zz ia₄ zz => ?_) (by delta attrN; walk_at "mem") (by decide)
 refine TP.execs_cons (TP.of (t_Assign_Attr ?_))
 walk_at "nm"
 walk_at "nm"
 refine T.setAttr P (GG H₄).k H₄ 0 rfl (Hx H₄) ia₄ (attrTake _ (by delta attrN; walk_at "mem")) (fun h₅ od₅ H₅ zz ia₅ zz => ?_) (by delta attrN; walk_at "mem") (by decide)
 refine TP.execs_cons (TP.Expr (TP.Call_method ?_) e.inter)
 walk_at "np"
 refine TP.of (T.getMeth (f:=at_SequenceMatcher_set_seqs) P (GG H₅).k ⟨Hx H₅,H₅.get (by walk_at "ms")⟩ ia₅ (by repeat (first | exact rfl | refine upd_next (by decide +kernel) ?_)) (by kernel_rfl!) (by kernel_rfl!) ?_)
 refine TP.callWith ?_ rfl
 walk_at "np"
 walk_at "np"
 refine ⟨Keeps.frag (GG H₅).k (by kernel_rfl!),TP.call ?_⟩
 have I5 : h₅.get? dx = some od₅:=H₅.get (by walk_at "ms")
 have B5 : Sub [] hb h₅:=BB H₅
 have S5:=H₅.base
 have X5:=Hx H₅
 clear H₄ H₃ H₂ H ia₂ ia₃ ia₄
 refine TCP.def (binds:=[((ofString "self"),.ref x),((ofString "a"),av),((ofString "b"),bv)]) [(dx,od₅)] (fn_set_seqs w.params) (G.sub B5) (by omega) (by kernel_rfl!) (by kernel_rfl!) (by simpa using I5) (by walk_at "ms") fun h₆ L₆ H₆ => ?_
 have e6:=(fn_set_seqs w.params).ok L₆
 have j1 : (callEnv fdOf_SequenceMatcher_set_seqs L₆ at_SequenceMatcher_set_seqs).kindOf (ofString "self") = some .local:=by kernel_rfl!
 have j2 : (callEnv fdOf_SequenceMatcher_set_seqs L₆ at_SequenceMatcher_set_seqs).kindOf (ofString "a") = some .local:=by kernel_rfl!
 have j3 : (callEnv fdOf_SequenceMatcher_set_seqs L₆ at_SequenceMatcher_set_seqs).kindOf (ofString "b") = some .local:=by kernel_rfl!
 replace H₆ : S h₅ [dx] L₆ (upd (upd (upd (fun zz=>none) (ofString "self") (.ref x)) (ofString "a") av) (ofString "b") bv) [(dx,od₅)] h₆:=H₆
 generalize henv6 : callEnv fdOf_SequenceMatcher_set_seqs L₆ at_SequenceMatcher_set_seqs = env6 at *
 have hL6 : L₆ = env6.locals:=by rw [← henv6]; rfl
 subst hL6
 have hdeep6 : (A'.deeper env6).depth = A'.depth + 1 ∧ (A'.deeper env6).units ≤ A'.units + 20:=by rw [← henv6]; exact ⟨rfl,by first | exact Nat.le_refl _ | (show A'.units + _ ≤ _; omega) | (simp [Around.deeper])⟩
 clear henv6
 have hh6 : (A'.deeper env6).handled = none:=hh'
 generalize A'.deeper env6 = A6 at *
 have GG6 : ∀ {m l h₂},S h₅ [dx] env6.locals m l h₂ → Gr (frag w.params) h₂:=fun H=>gr_in G B5 hn H
 have Hx6 : ∀ {m l h₂},S h₅ [dx] env6.locals m l h₂ → h₂.get? x = some (instObj aSM dx):=fun H=>H.old X5 (by simpa using hxd)
 have BB6 : ∀ {m l h₂},S h₅ [dx] env6.locals m l h₂ → Sub [] hb h₂:=fun H b o zz eb=>H.base b o (fun q=>by
  obtain rfl : b = dx:=by simpa using q
  rw [hn] at eb; cases eb) (B5 b o (by walk_at "ms") eb)
 refine TP.execs_cons (TP.of (T.Expr (T.cStr fun t=>⟨(fun b q=>by cases q), ?_⟩) e6.inter))
 refine TP.execs_cons (TP.of (T.Expr (T.Call_method ?_) e6.inter))
 walk_at "nm"
 refine T.getMeth (f:=at_SequenceMatcher_set_seq1) P (GG6 H₆).k ⟨Hx6 H₆,H₆.get (by walk_at "ms")⟩ ia₅ (by repeat (first | exact rfl | refine upd_next (by decide +kernel) ?_)) (by kernel_rfl!) (by kernel_rfl!) ?_
 refine T.callWith ?_ rfl
 walk_at "nm"
 refine ⟨Keeps.frag (GG6 H₆).k (by kernel_rfl!),T.call ?_⟩
 refine set_seq1 G (BB6 H₆) hn (by omega) (Hx6 H₆) (H₆.get (by walk_at "ms")) ia₅ (u := .none) (by walk_at "look") rfl ha.differs ha.off (by walk_at "ms") fun h₇ od₇ s₇ g₇ ia₇=>⟨(fun b q=>by cases q), ?_⟩
 have H₇:=H₆.upd 0 rfl s₇ g₇
 refine TP.execs_cons (TP.Expr (TP.Call_method ?_) e6.inter)
 walk_at "np"
 refine TP.of (T.getMeth (f:=at_SequenceMatcher_set_seq2) P (GG6 H₇).k ⟨Hx6 H₇,H₇.get (by walk_at "ms")⟩ ia₇ (by repeat (first | exact rfl | refine upd_next (by decide +kernel) ?_)) (by kernel_rfl!) (by kernel_rfl!) ?_)
 refine TP.callWith ?_ rfl
 walk_at "np"
 refine ⟨Keeps.frag (GG6 H₇).k (by kernel_rfl!),TP.call ?_⟩
 have S7 : Sub [dx] h h₇:=S5.trans H₇.base
 refine set_seq2J (knd:=knd) (ks:=ks) (nb:=nb) (Vb:=Vb) (bv:=bv) (jv:=jv) (aj:=aj) (jk:=jk) (Gb:=Gb) (Gj:=Gj) (u := .none) G (BB6 H₇) hn hh6 (by omega) (by omega) (Hx6 H₇) (H₇.get (by walk_at "ms")) ia₇ (by walk_at "look") rfl hbv.differs (fun a z y=>hbv.off (by rw [z,y])) (by walk_at "ms") (by walk_at "look") hjh (by walk_at "look") (by repeat (first | exact rfl | refine upd_next (by decide +kernel) ?_)) sq (fun h' s=>gb h' (S7.trans s)) fj (fun h' s=>gj h' (S7.trans s)) hi hsc hz fun h₈ od₈ d dj dp s₈ g₈ ia₈ b₈=>⟨(fun b q=>by cases q), ?_⟩
 refine TP.execs_nil ⟨(fun b q=>by cases q),TP.execs_nil ?_⟩
 exact q h₈ od₈ d dj dp (S7.trans s₈) g₈ ia₈ (b₈.back S7 (fun a m z=>by rw [List.mem_singleton.mp m,g₇] at z; cases z))
end
end Mine
end
section
namespace Mine
theorem entry_set_neF : entryFor table "set.__ne__" = some Builtin.«frozenset.__ne__» :=
 entryFor_alias (id' := "frozenset.__ne__") (by kernel_rfl!) rfl (by decide +kernel) (by kernel_rfl!)
theorem sub_set_frozen : isSubtype (.type "set") (.type "frozenset") = pure false:=by rw [PySem.isSubtype_type]; kernel_rfl!
section
variable {prog : Program} {w : World} {A : Around} {h h' h₀ : Heap} {K : Type} [DecidableEq K] {knd : KeyKind prog w K}
theorem quiet_scan {x : Value} (h : x.scannable = true) : Builtin.Frozenset.quietEq x = pure true:=by
 cases x <;> simp_all [Value.scannable,Builtin.Frozenset.quietEq]
theorem t_setNe {a b : Addr} {S S' : K → Bool} {n n' : Nat} {c : Bool} {Q : Value → Heap → Prop} (hS : h.SetOf knd a S n) (hS' : h.SetOf knd b S' n') (hu : A.units < cLine) (hc : c = true ↔ n = n' ∧ ∀ k,S k = true → S' k = true) (q : Q (.bool (!c)) h) : T prog w A (compareOp .NotEq (.ref a) (.ref b)) h Q:=fun s es=>by
 subst es
 show wpAny _ _ (richCompare .NotEq (.ref a) (.ref b)) _ _ _
 refine wpAny_richCompare_same_room hS.typeIs hS'.typeIs PySem.F.slot_set_ne (wpAny_call_entry PySem.F.slot_set_ne hS.typeIs entry_set_neF ?_ (PySem.F.args_set_ne_2 _ _)) hu
 obtain ⟨o,es,ep,t,ho,hex,hd,hel,hmem,hb,hf,hn⟩:=id hS
 obtain ⟨o',es',ep',t',ho',hex',hd',hel',hmem',hb',hf',hn'⟩:=id hS'
 unfold Builtin.«frozenset.__ne__»
 show wpAny _ _ (Builtin.Frozenset.slot1 "__ne__" ⟨[.ref a,.ref b],[]⟩ >>= _) _ _ s
 refine wpAny_bind ?_
 unfold Builtin.Frozenset.slot1
 refine wpAny_bind (wpAny_pure (wpAny_pure ?_))
 dsimp only
 refine wpAny_bind ?_
 unfold Builtin.Frozenset.isAnySet
 refine wpAny_bind (wpAny_isInstance (b:=true) hS'.typeIs sub_set_self ?_)
 refine wpAny_pure ?_
 rw [if_neg (by decide)]
 refine wpAny_bind (wpAny_pure (wpAny_bind (wpAny_pure ?_)))
 unfold Builtin.Frozenset.sizeOf
 refine wpAny_bind (wpAny_bind (wpAny_setEntries_of ho hd hf (wpAny_pure ?_)))
 refine wpAny_bind (wpAny_bind (wpAny_setEntries_of ho' hd' hf' (wpAny_pure ?_)))
 refine wpAny_bind ?_
 by_cases hsz : es.size = es'.size
 ·rw [if_neg (by simp [hsz])]
  refine wpAny_bind (wpAny_bind (wpAny_isInstance (b:=false) hS.typeIs sub_set_frozen (wpAny_pure ?_)))
  rw [if_neg (by decide)]
  unfold Builtin.Frozenset.subsetOf Builtin.Frozenset.sizeOf
  refine wpAny_bind (wpAny_bind (wpAny_setEntries_of ho hd hf (wpAny_pure ?_)))
  refine wpAny_bind (wpAny_bind (wpAny_setEntries_of ho' hd' hf' (wpAny_pure ?_)))
  rw [if_neg (by omega)]
  refine wpAny_bind (wpAny_setEpoch_of ho hd hf ?_)
  unfold Builtin.Frozenset.walkUnseen
  refine wpAny_bind (wpAny_bind (wpAny_setEntries_of ho hd hf ?_))
  refine wpAny_bind (wpAny_setEntries_of ho' hd' hf' ?_)
  refine wpAny_bind (wpAny_forIn_list _ (fun l b s'=>b = (none,()) ∧ s' = s ∧ ∀ e ∈ l,e.2.scannable = true) _ ?_ ?_ _ _ ⟨rfl,rfl, ?_⟩)
  ·rintro x r b s' ⟨rfl,rfl,hs⟩
   dsimp only
   rw [quiet_scan (hs x (.head _))]
   exact wpAny_bind (wpAny_pure (by rw [if_neg (by decide)]; exact wpAny_pure ⟨rfl,rfl,fun e he=>hs e (.tail _ he)⟩))
  ·rintro b s' ⟨rfl,rfl, -⟩
   dsimp only
   refine wpAny_pure ?_
   refine wpAny_bind (wpAny_mono (wpAny_forIn_list _ (fun l b s₂=>b = (none,()) ∧ s₂ = s' ∧ (∀ e ∈ l,e ∈ es.toList) ∧ ∀ e ∈ es.toList,e ∈ l ∨ ∀ k,knd.is k e.2 = true → S' k = true) (fun b s₂=>s₂ = s' ∧ match b.1 with | some r=>r = false ∧ c = false | none=>c = true) ?turn ?fin _ _ ⟨rfl,rfl,fun e he=>he,fun e he => .inl he⟩) ?after fun zz zz y=>y)
   case turn =>
    rintro ⟨hsh,x⟩ r b s₂ ⟨rfl,rfl,h1,h2⟩
    dsimp only
    have hx:=h1 (hsh,x) (.head _)
    obtain ⟨⟨k,hk,hhash⟩,hsc⟩:=hel (hsh,x) hx
    dsimp only at hk hhash hsc
    subst hhash
    refine wpAny_bind (wpAny_holding (wpAny_setFind_of hk hsc hS' fun r' hr' => ?_))
    have hSk : S k = true:=(hmem k).mpr ⟨_,hx,hk⟩
    cases hr2 : S' k with
    | false =>
     rw [hr2] at hr'
     rw [if_pos (by simpa using hr')]
     refine wpAny_pure ⟨rfl,rfl, ?_⟩
     cases hcv : c with
     | false=>rfl
     | true =>
      have:=(hc.mp hcv).2 k hSk
      rw [hr2] at this; cases this
    | true =>
     rw [hr2] at hr'
     rw [if_neg (by cases r' <;> simp_all)]
     unfold Builtin.Frozenset.unchanged
     refine wpAny_bind (wpAny_bind (wpAny_setEpoch_of ho hd hf ?_))
     rw [if_neg (by walk_at "ms")]
     refine wpAny_pure (wpAny_pure ⟨rfl,rfl,fun e he=>h1 e (.tail _ he),fun e he => ?_⟩)
     rcases h2 e he with z | z
     ·rcases List.mem_cons.mp z with rfl | z
      ·exact .inr fun k' hk'=>by rw [knd.inj _ _ _ hk' hk]; exact hr2
      ·exact .inl z
     ·exact .inr z
   case fin =>
    rintro b s₂ ⟨rfl,rfl, -,h2⟩
    refine ⟨rfl,hc.mpr ⟨by omega,fun k hk => ?_⟩⟩
    obtain ⟨e,he,hke⟩:=(hmem k).mp hk
    exact (h2 e he).elim (fun z=>by cases z) fun z=>z k hke
   case after =>
    rintro ⟨b,u⟩ s₂ ⟨rfl,hb2⟩
    cases b with
    | some r =>
     obtain ⟨rfl,hcf⟩:=hb2
     rw [hcf] at q
     exact wpAny_pure (wpAny_pure ⟨_,rfl,by simp,s₂.heap,s₂.toks,q⟩)
    | none =>
     have hb3 : c = true:=hb2
     rw [hb3] at q
     exact wpAny_pure (wpAny_pure ⟨_,rfl,by simp,s₂.heap,s₂.toks,q⟩)
  ·intro e he
   rcases List.mem_append.mp he with z | z
   ·exact (hel e z).2
   ·exact (hel' e z).2
 ·rw [if_pos (by simpa using hsz)]
  refine wpAny_pure (wpAny_pure ⟨_,rfl,by simp,s.heap,_, ?_⟩)
  have : c = false:=by
   cases c with
   | false=>rfl
   | true=>exact absurd (hc.mp rfl).1 (by omega)
  rw [this] at q
  exact q
end
end Mine
end
section
namespace Mine
noncomputable abbrev Store:=Addr → Obj → Prop
noncomputable def iterNames : List String:=["list_iterator", "range_iterator", "tuple_iterator", "str_ascii_iterator", "str_iterator", "dict_keyiterator", "enumerate"]
noncomputable def NoVal (o : Obj) : Prop:=(∃ n ∈ iterNames,o.cls = .type n) ∧ (∀ v,o.data ≠ .cell v) ∧ ∀ vs s t,o.data = .fields vs → vs[1]? ≠ some (.str s t)
theorem NoVal.ne {o : Obj} (n : NoVal o) {c : String} (e : o.cls = .type c) (h : c ∉ iterNames) : False:=by
 obtain ⟨⟨d,hd,e'⟩,_⟩:=n
 rw [e] at e'; cases e'; exact h hd
inductive PV
 | none
 | bool (b : Bool)
 | int (i : Int)
 | flt (x : UInt64)
 | str (s : Str)
 | list (xs : List PV)
 | rlist (xs : List PV)
 | tup (xs : List PV)
 | dict (ks : List Int) (xs : List PV)
 | rdict (ks : List Int) (xs : List PV)
 | raw (v : Value)
 | obj (P : Store → Addr → Obj → Prop)
 | robj (P : Store → Addr → Obj → Prop)
structure OwnP (F : Store) (o : Obj) (P : Store → Addr → Obj → Prop) : Prop where
 p : ∀ a,P F a o
 cls : o.cls = .type "dict"
 dat : ∃ es ep,o.data = .dict es ep
 mono : ∀ F' : Store,(∀ a o,F a o → ¬ NoVal o → F' a o) → ∀ a,P F' a o
theorem OwnP.nv {F : Store} {o : Obj} {P : Store → Addr → Obj → Prop} (x : OwnP F o P) : ¬ NoVal o:=fun z=>z.ne x.cls (by decide +kernel)
theorem OwnP.nc {F : Store} {o : Obj} {P : Store → Addr → Obj → Prop} (x : OwnP F o P) : ∀ u,o.data ≠ .cell u:=fun u hu=>by
 obtain ⟨es,ep,e⟩:=x.dat
 rw [e] at hu; cases hu
theorem OwnP.up {F F' : Store} {o : Obj} {P : Store → Addr → Obj → Prop} (x : OwnP F o P) (h : ∀ a o,F a o → ¬ NoVal o → F' a o) : OwnP F' o P:=⟨x.mono _ h,x.cls,x.dat,fun F2 q=>x.mono F2 fun a o e n=>q a o (h a o e n) n⟩
mutual
inductive Rep (prog : Program) (w : World) (F R : Store) : Value → PV → Prop
 | none : Rep prog w F R .none .none
 | bool (b : Bool) : Rep prog w F R (.bool b) (.bool b)
 | int (i : Int) (t : Tok) : Rep prog w F R (.int i t) (.int i)
 | flt (x : UInt64) (t : Tok) : t ≠ 0 → Rep prog w F R (.float x t) (.flt x)
 | str (s : Str) (t : Tok) : Rep prog w F R (.str s t) (.str s)
 | list {a : Addr} {o : Obj} {vs : List Value} {xs : List PV} : F a o → IsLst o vs → Reps prog w F R vs xs → Rep prog w F R (.ref a) (.list xs)
 | rlist {a : Addr} {o : Obj} {vs : List Value} {xs : List PV} : R a o → IsLst o vs → Reps prog w F R vs xs → Rep prog w F R (.ref a) (.rlist xs)
 | tup {a : Addr} {o : Obj} {vs : List Value} {xs : List PV} : F a o → IsTupO o vs → Reps prog w F R vs xs → Rep prog w F R (.ref a) (.tup xs)
 | dict {a : Addr} {o : Obj} {ks : List Int} {vs : List Value} {xs : List PV} : F a o → IsDic prog w o (ks.zip vs) → ks.length = vs.length → Reps prog w F R vs xs → Rep prog w F R (.ref a) (.dict ks xs)
 | rdict {a : Addr} {o : Obj} {ks : List Int} {vs : List Value} {xs : List PV} : R a o → IsDic prog w o (ks.zip vs) → ks.length = vs.length → Reps prog w F R vs xs → Rep prog w F R (.ref a) (.rdict ks xs)
 | raw (v : Value) : Rep prog w F R v (.raw v)
 | obj {a : Addr} {o : Obj} {P : Store → Addr → Obj → Prop} : F a o → P F a o → ¬ NoVal o → (∀ F' : Store,(∀ a o,F a o → ¬ NoVal o → F' a o) → P F' a o) → Rep prog w F R (.ref a) (.obj P)
 | robj {a : Addr} {o : Obj} {P : Store → Addr → Obj → Prop} : R a o → OwnP F o P → Rep prog w F R (.ref a) (.robj P)
inductive Reps (prog : Program) (w : World) (F R : Store) : List Value → List PV → Prop
 | nil : Reps prog w F R [] []
 | cons {v : Value} {x : PV} {vs : List Value} {xs : List PV} : Rep prog w F R v x → Reps prog w F R vs xs → Reps prog w F R (v :: vs) (x :: xs)
end
inductive ORep (prog : Program) (w : World) (F R : Store) (o : Obj) : PV → Prop
 | list {vs : List Value} {xs : List PV} : IsLst o vs → Reps prog w F R vs xs → ORep prog w F R o (.list xs)
 | dict {ks : List Int} {vs : List Value} {xs : List PV} : IsDic prog w o (ks.zip vs) → ks.length = vs.length → Reps prog w F R vs xs → ORep prog w F R o (.dict ks xs)
 | obj {P : Store → Addr → Obj → Prop} : OwnP F o P → ORep prog w F R o (.obj P)
mutual
noncomputable def Safe : PV → Prop
 | .list xs=>Safes xs
 | .tup xs=>Safes xs
 | .dict _ xs=>Safes xs
 | .rlist _=>False
 | .rdict _ _=>False
 | .robj _=>False
 | _=>True
noncomputable def Safes : List PV → Prop
 | []=>True
 | x :: xs=>Safe x ∧ Safes xs
end
section
variable {prog : Program} {w : World} {F R : Store} {v : Value} {vs : List Value}
noncomputable def RepI (prog : Program) (w : World) (F R : Store) (v : Value) : PV → Prop
 | .none=>v = .none
 | .bool b=>v = .bool b
 | .int i => ∃ t,v = .int i t
 | .flt x => ∃ t,v = .float x t ∧ t ≠ 0
 | .str s => ∃ t,v = .str s t
 | .list xs => ∃ a o vs,v = .ref a ∧ F a o ∧ IsLst o vs ∧ Reps prog w F R vs xs
 | .rlist xs => ∃ a o vs,v = .ref a ∧ R a o ∧ IsLst o vs ∧ Reps prog w F R vs xs
 | .tup xs => ∃ a o vs,v = .ref a ∧ F a o ∧ IsTupO o vs ∧ Reps prog w F R vs xs
 | .raw u=>v = u
 | .obj P => ∃ a o,v = .ref a ∧ F a o ∧ P F a o ∧ ¬ NoVal o
 | _=>True
theorem Rep.inv {x : PV} (r : Rep prog w F R v x) : RepI prog w F R v x :=
 Rep.casesOn (motive_1:=fun v x zz=>RepI prog w F R v x) r rfl (fun zz=>rfl) (fun zz t=>⟨t,rfl⟩) (fun zz t n=>⟨t,rfl,n⟩) (fun zz t=>⟨t,rfl⟩) (fun a b c=>⟨_,_,_,rfl,a,b,c⟩) (fun a b c=>⟨_,_,_,rfl,a,b,c⟩) (fun a b c=>⟨_,_,_,rfl,a,b,c⟩) (fun zz zz zz zz=>trivial) (fun zz zz zz zz=>trivial) (fun zz=>rfl) (fun a b c zz=>⟨_,_,rfl,a,b,c⟩) (fun zz zz=>trivial)
theorem Rep.i {i : Int} (r : Rep prog w F R v (.int i)) : ∃ t,v = .int i t:=r.inv
theorem Rep.r {u : Value} (r : Rep prog w F R v (.raw u)) : v = u:=r.inv
theorem Rep.o {P : Store → Addr → Obj → Prop} (r : Rep prog w F R v (.obj P)) : ∃ a o,v = .ref a ∧ F a o ∧ P F a o ∧ ¬ NoVal o:=r.inv
theorem Rep.b {b : Bool} (r : Rep prog w F R v (.bool b)) : v = .bool b:=r.inv
theorem Rep.l {xs : List PV} (r : Rep prog w F R v (.list xs)) : ∃ a o vs,v = .ref a ∧ F a o ∧ IsLst o vs ∧ Reps prog w F R vs xs:=r.inv
theorem Rep.n (r : Rep prog w F R v .none) : v = .none:=r.inv
theorem Reps.c {x : PV} {xs : List PV} (r : Reps prog w F R (v :: vs) (x :: xs)) : Rep prog w F R v x ∧ Reps prog w F R vs xs:=by cases r; exact ⟨‹_›,‹_›⟩
theorem Reps.one {p : PV} (r : Reps prog w F R vs [p]) : ∃ v,vs = [v] ∧ Rep prog w F R v p:=by
 cases r with | cons h1 h2=>cases h2; exact ⟨_,rfl,h1⟩
theorem Reps.two {p q : PV} (r : Reps prog w F R vs [p,q]) : ∃ v u,vs = [v,u] ∧ Rep prog w F R v p ∧ Rep prog w F R u q:=by
 cases r with | cons h1 h2=>obtain ⟨_,rfl,h3⟩:=h2.one; exact ⟨_,_,rfl,h1,h3⟩
end
section
variable {prog : Program} {w : World} {F F' R R' : Store} {v : Value} {vs : List Value} {x : PV} {xs : List PV} {o : Obj}
theorem Rep.both (hF : ∀ a o,F a o → F' a o) (hR : ∀ a o,R a o → R' a o) : (∀ {v x},Rep prog w F R v x → Rep prog w F' R' v x) ∧ (∀ {vs xs},Reps prog w F R vs xs → Reps prog w F' R' vs xs) :=
 have k := @Rep.rec prog w F R (fun v x zz=>Rep prog w F' R' v x) (fun vs xs zz=>Reps prog w F' R' vs xs) .none .bool .int .flt .str (fun a b zz c => .list (hF _ _ a) b c) (fun a b zz c => .rlist (hR _ _ a) b c) (fun a b zz c => .tup (hF _ _ a) b c) (fun a b c zz d => .dict (hF _ _ a) b c d) (fun a b c zz d => .rdict (hR _ _ a) b c d) .raw (fun h1 h2 h3 h4 => .obj (hF _ _ h1) (h4 _ fun a o e zz=>hF a o e) h3 fun F2 h=>h4 F2 fun a o e n=>h a o (hF a o e) n) (fun a b => .robj (hR _ _ a) (b.up fun a o e zz=>hF a o e)) .nil (fun zz zz a b => .cons a b)
 have k2 := @Reps.rec prog w F R (fun v x zz=>Rep prog w F' R' v x) (fun vs xs zz=>Reps prog w F' R' vs xs) .none .bool .int .flt .str (fun a b zz c => .list (hF _ _ a) b c) (fun a b zz c => .rlist (hR _ _ a) b c) (fun a b zz c => .tup (hF _ _ a) b c) (fun a b c zz d => .dict (hF _ _ a) b c d) (fun a b c zz d => .rdict (hR _ _ a) b c d) .raw (fun h1 h2 h3 h4 => .obj (hF _ _ h1) (h4 _ fun a o e zz=>hF a o e) h3 fun F2 h=>h4 F2 fun a o e n=>h a o (hF a o e) n) (fun a b => .robj (hR _ _ a) (b.up fun a o e zz=>hF a o e)) .nil (fun zz zz a b => .cons a b)
 ⟨fun r=>k r,fun r=>k2 r⟩
theorem Rep.mono (hF : ∀ a o,F a o → F' a o) (hR : ∀ a o,R a o → R' a o) {v : Value} {x : PV} (r : Rep prog w F R v x) : Rep prog w F' R' v x:=(Rep.both hF hR).1 r
theorem Reps.mono (hF : ∀ a o,F a o → F' a o) (hR : ∀ a o,R a o → R' a o) {vs : List Value} {xs : List PV} (r : Reps prog w F R vs xs) : Reps prog w F' R' vs xs:=(Rep.both hF hR).2 r
theorem Rep.safe2 : (∀ {v x},Rep prog w F R v x → Safe x → Rep prog w F R' v x) ∧ (∀ {vs xs},Reps prog w F R vs xs → Safes xs → Reps prog w F R' vs xs) :=
 have k := @Rep.rec prog w F R (fun v x zz=>Safe x → Rep prog w F R' v x) (fun vs xs zz=>Safes xs → Reps prog w F R' vs xs) (fun zz => .none) (fun b zz => .bool b) (fun i t zz => .int i t) (fun x t n zz => .flt x t n) (fun s t zz => .str s t) (fun a b zz c s => .list a b (c s)) (fun zz zz zz zz s=>s.elim) (fun a b zz c s => .tup a b (c s)) (fun a b c zz d s => .dict a b c (d s)) (fun zz zz zz zz zz s=>s.elim) (fun v zz => .raw v) (fun a b c d zz => .obj a b c d) (fun zz zz s=>s.elim) (fun zz => .nil) (fun zz zz a b s => .cons (a s.1) (b s.2))
 have k2 := @Reps.rec prog w F R (fun v x zz=>Safe x → Rep prog w F R' v x) (fun vs xs zz=>Safes xs → Reps prog w F R' vs xs) (fun zz => .none) (fun b zz => .bool b) (fun i t zz => .int i t) (fun x t n zz => .flt x t n) (fun s t zz => .str s t) (fun a b zz c s => .list a b (c s)) (fun zz zz zz zz s=>s.elim) (fun a b zz c s => .tup a b (c s)) (fun a b c zz d s => .dict a b c (d s)) (fun zz zz zz zz zz s=>s.elim) (fun v zz => .raw v) (fun a b c d zz => .obj a b c d) (fun zz zz s=>s.elim) (fun zz => .nil) (fun zz zz a b s => .cons (a s.1) (b s.2))
 ⟨fun r=>k r,fun r=>k2 r⟩
theorem Rep.safe {v : Value} {x : PV} (r : Rep prog w F R v x) (s : Safe x) : Rep prog w F R' v x:=Rep.safe2.1 r s
theorem Reps.safe {vs : List Value} {xs : List PV} (r : Reps prog w F R vs xs) (s : Safes xs) : Reps prog w F R' vs xs:=Rep.safe2.2 r s
theorem ORep.mono (hF : ∀ a o,F a o → F' a o) (hR : ∀ a o,R a o → R' a o) {x : PV} : ORep prog w F R o x → ORep prog w F' R' o x
 | .list h1 h2 => .list h1 (h2.mono hF hR)
 | .dict h1 h2 h3 => .dict h1 h2 (h3.mono hF hR)
 | .obj h1 => .obj (h1.up fun a o e zz=>hF a o e)
theorem ORep.safe {x : PV} : ORep prog w F R o x → Safe x → ORep prog w F R' o x
 | .list h1 h2,s => .list h1 (h2.safe s)
 | .dict h1 h2 h3,s => .dict h1 h2 (h3.safe s)
 | .obj h1,_ => .obj h1
theorem Reps.length (h : Reps prog w F R vs xs) : vs.length = xs.length:=by
 induction vs generalizing xs with
 | nil=>cases h; rfl
 | cons v vs ih=>cases h with | cons h1 h2=>simp [ih h2]
theorem Reps.get (h : Reps prog w F R vs xs) {i : Nat} {x : PV} (hx : xs[i]? = some x) : ∃ v,vs[i]? = some v ∧ Rep prog w F R v x:=by
 induction vs generalizing xs i with
 | nil=>cases h; simp at hx
 | cons v vs ih =>
  cases h with
  | cons h1 h2 =>
   cases i with
   | zero=>simp at hx; subst hx; exact ⟨v,rfl,h1⟩
   | succ i=>exact ih h2 (by simpa using hx)
theorem Reps.append {us : List Value} {ys : List PV} (h : Reps prog w F R vs xs) (h' : Reps prog w F R us ys) : Reps prog w F R (vs ++ us) (xs ++ ys):=by
 induction vs generalizing xs with
 | nil=>cases h; exact h'
 | cons v vs ih=>cases h with | cons h1 h2=>exact .cons h1 (ih h2)
theorem Reps.ints : ∀ {vs : List Value} {ns : List Int},IntsAre vs ns → Reps prog w F R vs (ns.map .int)
 | _,_,.nil => .nil
 | _,_,.cons n t r => .cons (.int n t) (Reps.ints r)
theorem Reps.toInts : ∀ {vs : List Value} {ns : List Int},Reps prog w F R vs (ns.map .int) → IntsAre vs ns
 | [],[],_ => .nil
 | [],_ :: _,h=>by cases h
 | _ :: _,[],h=>by cases h
 | v :: vs,n :: ns,h=>by
  obtain ⟨h1,h2⟩:=Reps.c h
  obtain ⟨t,rfl⟩:=h1.i
  exact .cons n t (Reps.toInts h2)
theorem Safes.ints : ∀ (ns : List Int),Safes (ns.map .int)
 | []=>by simp [Safes]
 | n :: ns=>by rw [List.map_cons,Safes]; exact ⟨by simp [Safe],Safes.ints ns⟩
theorem Safes.all (h : ∀ x ∈ xs,Safe x) : Safes xs:=by
 induction xs with
 | nil=>simp [Safes]
 | cons x xs ih=>rw [Safes]; exact ⟨h x (.head _),ih fun y hy=>h y (.tail _ hy)⟩
theorem Safes.of (h : Safes xs) : ∀ x ∈ xs,Safe x:=by
 induction xs with
 | nil=>simp
 | cons y ys ih =>
  rw [Safes] at h
  intro x hx
  rcases List.mem_cons.mp hx with rfl | hx
  ·exact h.1
  ·exact ih h.2 x hx
end
structure Fm where
 prog : Program
 w : World
 A : Around
 env : Env
 h₀ : Heap
 D : List Addr
 F₀ : Store
 XR : Store
 K : Frag
 rd : Nat
 pl : List Addr
structure FmOk (X : Fm) : Prop where
 e : EnvOk X.env
 hh : X.A.handled = none
 gr : ∀ h,Sub X.D X.h₀ h → Gr X.K h
 f0 : ∀ a o,X.F₀ a o → X.h₀.get? a = some o ∧ a ∉ X.D
 xr : ∀ a o,X.XR a o → X.h₀.get? a = some o ∧ a ∉ X.D
 cinj : ∀ x y c,X.env.cells.lookup x = some c → X.env.cells.lookup y = some c → x = y
 room : X.A.depth + 20 + X.rd < recursionLimit
 units : X.A.units + 20 + 10 * X.rd < cLine
inductive Bind
 | fz (x : PV)
 | own (a : Addr) (x : PV)
 | mat (d C : Addr) (P : Store → Obj → Prop)
 | nest (as : List Addr) (xss : List (List PV))
 | gh (x : PV) (a : Addr) (P : Obj → Prop)
noncomputable def Bind.addrs : Bind → List Addr
 | .fz _=>[]
 | .own a _=>[a]
 | .mat d _ _=>[d]
 | .nest as _=>as
 | .gh _ a _=>[a]
inductive Nest (prog : Program) (w : World) (F R : Store) (l : List (Addr × Obj)) : List Addr → List (List PV) → Prop
 | nil : Nest prog w F R l [] []
 | cons {a : Addr} {o : Obj} {vs : List Value} {xs : List PV} {as : List Addr} {xss : List (List PV)} : (a,o) ∈ l → IsLst o vs → Reps prog w F R vs xs → Nest prog w F R l as xss → Nest prog w F R l (a :: as) (xs :: xss)
theorem Nest.mono {prog : Program} {w : World} {F F' R R' : Store} {l l' : List (Addr × Obj)} (hF : ∀ a o,F a o → F' a o) (hR : ∀ a o,R a o → R' a o) {as : List Addr} {xss : List (List PV)} (x : Nest prog w F R l as xss) : (∀ a o,a ∈ as → (a,o) ∈ l → (a,o) ∈ l') → Nest prog w F' R' l' as xss:=by
 induction x with
 | nil=>exact fun zz => .nil
 | cons h1 h2 h3 _ ih=>exact fun hl => .cons (hl _ _ (.head _) h1) h2 (h3.mono hF hR) (ih fun a o ha=>hl a o (.tail _ ha))
theorem Nest.mem {prog : Program} {w : World} {F R : Store} {l : List (Addr × Obj)} {as : List Addr} {xss : List (List PV)} (x : Nest prog w F R l as xss) {a : Addr} (ha : a ∈ as) : ∃ o,(a,o) ∈ l ∧ ∃ vs,IsLst o vs:=by
 induction x with
 | nil=>cases ha
 | cons h1 h2 h3 _ ih =>
  rcases List.mem_cons.mp ha with rfl | ha
  ·exact ⟨_,h1,_,h2⟩
  ·exact ih ha
noncomputable abbrev Ctx:=List (Str × Bind)
noncomputable def Look (X : Fm) (m : Str → Option Value) (l : List (Addr × Obj)) (x : Str) (v : Value) : Prop :=
 (X.env.kindOf x = some .local ∧ m x = some v) ∨ ∃ c o,X.env.kindOf x = some .cell ∧ X.env.cells.lookup x = some c ∧ ((c,o) ∈ l ∨ X.XR c o) ∧ IsCel o (some v)
noncomputable def BindOk (X : Fm) (F : Store) (l : List (Addr × Obj)) (v : Value) : Bind → Prop
 | .fz x=>Rep X.prog X.w F X.XR v x
 | .own a x => ∃ o,v = .ref a ∧ (a,o) ∈ l ∧ ORep X.prog X.w F X.XR o x
 | .mat d C P => ∃ x od,v = .ref x ∧ F x (instObj C d) ∧ (d,od) ∈ l ∧ (∃ es n,od = dictOf es n) ∧ ∀ F',(∀ a o,F a o → ¬ NoVal o → F' a o) → P F' od
 | .nest as xss => ∃ a o,v = .ref a ∧ F a o ∧ IsLst o (as.map .ref) ∧ as.Nodup ∧ Nest X.prog X.w F X.XR l as xss
 | .gh x a P=>Rep X.prog X.w F X.XR v x ∧ ∃ o,(a,o) ∈ l ∧ P o ∧ ∀ u,o.data ≠ .cell u
theorem BindOk.mono {X : Fm} {F F' : Store} {l l' : List (Addr × Obj)} {v : Value} {b : Bind} (le : ∀ a o,F a o → F' a o) (hl : ∀ a o,a ∈ b.addrs → (a,o) ∈ l → (a,o) ∈ l') (x : BindOk X F l v b) : BindOk X F' l' v b:=by
 cases b with
 | fz p=>exact Rep.mono le (fun zz zz e=>e) x
 | own a p =>
  obtain ⟨o,h1,h2,h3⟩:=x
  exact ⟨o,h1,hl a o (.head _) h2,h3.mono le fun zz zz e=>e⟩
 | mat d C P =>
  obtain ⟨x,od,h1,h2,h3,h4,h5⟩:=x
  exact ⟨x,od,h1,le _ _ h2,hl d od (.head _) h3,h4,fun F2 q=>h5 F2 fun a o e n=>q a o (le a o e) n⟩
 | nest as xss =>
  obtain ⟨a,o,h1,h2,h3,h4,h5⟩:=x
  exact ⟨a,o,h1,le _ _ h2,h3,h4,h5.mono le (fun zz zz e=>e) hl⟩
 | gh p a P =>
  obtain ⟨r,o,h1,h2,h3⟩:=x
  exact ⟨r.mono le fun zz zz e=>e,o,hl a o (.head _) h1,h2,h3⟩
theorem BindOk.mem {X : Fm} {F : Store} {l : List (Addr × Obj)} {v : Value} {b : Bind} {a : Addr} (x : BindOk X F l v b) (e : a ∈ b.addrs) : ∃ o,(a,o) ∈ l ∧ ∀ u,o.data ≠ .cell u:=by
 cases b with
 | fz p=>cases e
 | gh p a' P =>
  obtain rfl : a = a':=by simpa [Bind.addrs] using e
  obtain ⟨r,o,h1,h2,h3⟩:=x
  exact ⟨o,h1,h3⟩
 | nest as xss =>
  obtain ⟨a',o,h1,h2,h3,h4,h5⟩:=x
  obtain ⟨o,m,vs,n,rfl⟩:=h5.mem e
  exact ⟨_,m,fun u hu=>by cases hu⟩
 | own a' p =>
  obtain rfl : a = a':=by simpa [Bind.addrs] using e
  obtain ⟨o,h1,h2,h3⟩:=x
  refine ⟨o,h2,fun u hu => ?_⟩
  cases h3 with
  | list h1 h2=>obtain ⟨n,rfl⟩:=h1; cases hu
  | dict h1 h2 h3 =>
   obtain ⟨es,n,_,e,_⟩:=h1
   rw [e] at hu; cases hu
  | obj h1=>exact h1.nc u hu
 | mat d C P =>
  obtain rfl : a = d:=by simpa [Bind.addrs] using e
  obtain ⟨x,od,h1,h2,h3,⟨es,n,rfl⟩,h5⟩:=x
  exact ⟨_,h3,fun u hu=>by cases hu⟩
noncomputable def IsPl (o : Obj) : Prop := ∃ ps,o.data = .fields ps ∧ TriplesOk ps.toList ∧ o = { cls := .none,data := .fields ps }
noncomputable def PlOk (pl : List Addr) (l : List (Addr × Obj)) : Prop := ∀ q ∈ pl,∃ o,(q,o) ∈ l ∧ IsPl o
theorem PlOk.to {pl : List Addr} {l l' : List (Addr × Obj)} (x : PlOk pl l) (k : ∀ c o,(c,o) ∈ l → IsPl o → (c,o) ∈ l') : PlOk pl l':=fun q hq=>let ⟨o,h1,h2⟩:=x q hq; ⟨o,k q o h1 h2,h2⟩
structure Holds (X : Fm) (Γ : Ctx) (F : Store) (m : Str → Option Value) (l : List (Addr × Obj)) (h : Heap) : Prop where
 s : S X.h₀ X.D X.env.locals m l h
 fz : ∀ a o,F a o → h.get? a = some o ∧ a ≠ X.env.locals ∧ a ∉ l.map (·.1)
 fn : ∀ a o,F a o → X.F₀ a o ∨ X.h₀.get? a = none
 f0 : ∀ a o,X.F₀ a o → F a o
 nm : ∀ x b,Γ.lookup x = some b → ∃ v,Look X m l x v ∧ BindOk X F l v b
 inj : ∀ x y b c a,Γ.lookup x = some b → Γ.lookup y = some c → a ∈ b.addrs → a ∈ c.addrs → x = y
 cel : ∀ x c,X.env.cells.lookup x = some c → X.h₀.get? c = none → ∃ o v,(c,o) ∈ l ∧ IsCel o v
 pl : PlOk X.pl l
noncomputable def RS (X : Fm) (l : List (Addr × Obj)) : Store:=fun a o=>X.XR a o ∨ (a,o) ∈ l
section
variable {X : Fm} {Γ Γ' : Ctx} {F F' : Store} {m : Str → Option Value} {l : List (Addr × Obj)} {h h' : Heap}
theorem Holds.sub (H : Holds X Γ F m l h) (s : Sub [] h h') : Holds X Γ F m l h' where
 s:=H.s.sub s
 fz:=fun a o e=>⟨s _ _ (by walk_at "ms") (H.fz a o e).1,(H.fz a o e).2⟩
 fn:=H.fn
 f0:=H.f0
 nm:=H.nm
 inj:=H.inj
 cel:=H.cel
 pl:=H.pl
theorem Holds.gr (ok : FmOk X) (H : Holds X Γ F m l h) : Gr X.K h:=ok.gr h H.s.base
theorem Holds.xr (ok : FmOk X) (H : Holds X Γ F m l h) {a : Addr} {o : Obj} (e : X.XR a o) : h.get? a = some o:=H.s.base a o (ok.xr a o e).2 (ok.xr a o e).1
theorem Holds.rs (ok : FmOk X) (H : Holds X Γ F m l h) {a : Addr} {o : Obj} (e : RS X l a o) : h.get? a = some o:=e.elim (H.xr ok) (H.s.led (a,o))
theorem Rep.toRS {F : Store} {v : Value} {x : PV} (r : Rep X.prog X.w F X.XR v x) : Rep X.prog X.w F (RS X l) v x:=r.mono (fun zz zz e=>e) fun zz zz e => .inl e
noncomputable def Store.add (F : Store) (a : Addr) (o : Obj) : Store:=fun b p=>F b p ∨ (b = a ∧ p = o)
theorem Holds.freeze (H : Holds X Γ F m l h) (s : Sub [] h h') {a : Addr} {o : Obj} (hn : h.get? a = none) (ho : h'.get? a = some o) : Holds X Γ (F.add a o) m l h' := by
  have H' := H.sub s
  obtain ⟨f1, f2, f3⟩ := H.s.fresh hn
  exact { s := H'.s
          fz := fun b p e => e.elim (H'.fz b p) fun e => by obtain ⟨rfl, rfl⟩ := e; exact ⟨ho, f2, f3⟩
          fn := fun b p e => e.elim (H'.fn b p) fun e => by obtain ⟨rfl, rfl⟩ := e; exact .inr f1
          f0 := fun b p e => .inl (H.f0 b p e)
          nm := fun x b e => by
            obtain ⟨v, lk, bo⟩ := H.nm x b e
            exact ⟨v, lk, bo.mono (fun zz zz e => .inl e) fun zz zz zz e => e⟩
          inj := H.inj
          cel := H.cel
          pl := H.pl }
theorem Holds.weak (H : Holds X Γ F m l h) (hs : ∀ x b,Γ'.lookup x = some b → Γ.lookup x = some b) : Holds X Γ' F m l h:={ H with nm:=fun x b e=>H.nm x b (hs x b e),inj:=fun x y b c a e1 e2=>H.inj x y b c a (hs _ _ e1) (hs _ _ e2) }
structure Fresh (X : Fm) (F : Store) (l : List (Addr × Obj)) (a : Addr) : Prop where
 new : X.h₀.get? a = none
 offL : a ≠ X.env.locals
 offl : a ∉ l.map (·.1)
 offF : ∀ o,¬ F a o
theorem Holds.fresh (H : Holds X Γ F m l h) {a : Addr} (hn : h.get? a = none) : Fresh X F l a :=
 ⟨(H.s.fresh hn).1,(H.s.fresh hn).2.1,(H.s.fresh hn).2.2,fun o e=>by rw [(H.fz a o e).1] at hn; cases hn⟩
inductive EP (X : Fm) (Γ : Ctx) (F : Store) (m : Str → Option Value) (l : List (Addr × Obj)) (x : PV) (v : Value) (h' : Heap) : Prop
 | mk (F' : Store) : (∀ a o,F a o → F' a o) → Holds X Γ F' m l h' → Rep X.prog X.w F' (RS X l) v x → EP X Γ F m l x v h'
inductive NP (X : Fm) (Γ : Ctx) (F : Store) (m : Str → Option Value) (l : List (Addr × Obj)) (x : PV) (v : Value) (h' : Heap) : Prop
 | mk (F' : Store) (a : Addr) (o : Obj) : (∀ a o,F a o → F' a o) → Holds X Γ F' m l h' → v = .ref a → h'.get? a = some o → Fresh X F' l a → ORep X.prog X.w F' (RS X l) o x → NP X Γ F m l x v h'
inductive BP (X : Fm) (Γ : Ctx) (F : Store) (m : Str → Option Value) (l : List (Addr × Obj)) (b : Bool) (c : Bool) (h' : Heap) : Prop
 | mk (F' : Store) : (∀ a o,F a o → F' a o) → Holds X Γ F' m l h' → c = b → BP X Γ F m l b c h'
theorem EP.up {x : PV} {v : Value} (le : ∀ a o,F a o → F' a o) : EP X Γ F' m l x v h → EP X Γ F m l x v h
 | ⟨F₂,le₂,H,r⟩=>⟨F₂,fun a o e=>le₂ a o (le a o e),H,r⟩
theorem EP.here {x : PV} {v : Value} (H : Holds X Γ F m l h) (r : Rep X.prog X.w F (RS X l) v x) : EP X Γ F m l x v h:=⟨F,fun zz zz e=>e,H,r⟩
theorem BP.here {b : Bool} (H : Holds X Γ F m l h) : BP X Γ F m l b b h := .mk F (fun zz zz e=>e) H rfl
noncomputable def E (X : Fm) (Γ : Ctx) (e : PySem.Expr) (x : PV) : Prop := ∀ F m l h,Holds X Γ F m l h → TP X.prog X.w X.A (eval e X.env) h (EP X Γ F m l x)
noncomputable def N (X : Fm) (Γ : Ctx) (e : PySem.Expr) (x : PV) : Prop := ∀ F m l h,Holds X Γ F m l h → TP X.prog X.w X.A (eval e X.env) h (NP X Γ F m l x)
theorem E.go {e : PySem.Expr} {x : PV} {Q : Value → Heap → Prop} (ee : E X Γ e x) (H : Holds X Γ F m l h) (k : ∀ F' v h',(∀ a o,F a o → F' a o) → Holds X Γ F' m l h' → Rep X.prog X.w F' (RS X l) v x → Q v h') : TP X.prog X.w X.A (eval e X.env) h Q:=(ee F m l h H).mono fun v h' ⟨F',a,b,c⟩=>k F' v h' a b c
noncomputable def B (X : Fm) (Γ : Ctx) (e : PySem.Expr) (b : Bool) : Prop := ∀ F m l h,Holds X Γ F m l h → TP X.prog X.w X.A (isTrue e X.env (eval e X.env)) h (BP X Γ F m l b)
theorem Holds.lay (H : Holds X Γ F m l h) {a : Addr} {o : Obj} (fr : Fresh X F l a) (ho : h.get? a = some o) : Holds X Γ (F.add a o) m l h :=
  { s := H.s
    fz := fun b p e => e.elim (H.fz b p) fun e => by obtain ⟨rfl, rfl⟩ := e; exact ⟨ho, fr.offL, fr.offl⟩
    fn := fun b p e => e.elim (H.fn b p) fun e => by obtain ⟨rfl, rfl⟩ := e; exact .inr fr.new
    f0 := fun b p e => .inl (H.f0 b p e)
    nm := fun x b e => by
      obtain ⟨v, lk, bo⟩ := H.nm x b e
      exact ⟨v, lk, bo.mono (fun zz zz e => .inl e) fun zz zz zz e => e⟩
    inj := H.inj
    cel := H.cel
    pl := H.pl }
theorem E.ofN {e : PySem.Expr} {x : PV} (n : N X Γ e x) : E X Γ e x:=fun F m l h H=>(n F m l h H).mono fun v h' ⟨F',a,o,le,H',hv,ho,fr,oR⟩=>by
 subst hv
 refine ⟨F'.add a o,fun b p e => .inl (le b p e),H'.lay fr ho, ?_⟩
 cases oR with
 | list h1 h2=>exact .list (.inr ⟨rfl,rfl⟩) h1 (h2.mono (fun zz zz e => .inl e) fun zz zz e=>e)
 | dict h1 h2 h3=>exact .dict (.inr ⟨rfl,rfl⟩) h1 h2 (h3.mono (fun zz zz e => .inl e) fun zz zz e=>e)
 | obj h1=>have h2:=h1.up (F':=F'.add a o) fun zz zz e zz => .inl e; exact .obj (.inr ⟨rfl,rfl⟩) (h2.p _) h2.nv fun F2 q=>h2.mono F2 q _
theorem E.eq {e : PySem.Expr} {x y : PV} (q : x = y) (t : E X Γ e x) : E X Γ e y:=q ▸ t
theorem N.eq {e : PySem.Expr} {x y : PV} (q : x = y) (t : N X Γ e x) : N X Γ e y:=q ▸ t
theorem B.eq {e : PySem.Expr} {x y : Bool} (q : x = y) (t : B X Γ e x) : B X Γ e y:=q ▸ t
theorem look_eval (ok : FmOk X) (H : Holds X Γ F m l h) {x : Str} {v : Value} (lk : Look X m l x v) {pos : Pos} {Q : Value → Heap → Prop} (hd : (x == ("__debug__" : Str)) = false) (q : Q v h) : TP X.prog X.w X.A (eval (.Name x pos) X.env) h Q:=by
 rcases lk with ⟨k,hm⟩ | ⟨c,o,k,hc,ho,hv⟩
 ·exact TP.of <| T.Name ok.e H.s hm q k hd
 ·refine TP.of (t_NameC ok.e k hc (o:=o) ?_ hv q hd)
  exact ho.elim (H.s.led (c,o)) (H.xr ok)
theorem E.name (ok : FmOk X) {x : Str} {p : PV} {pos : Pos} (hx : Γ.lookup x = some (.fz p)) (hd : (x == ("__debug__" : Str)) = false) : E X Γ (.Name x pos) p:=fun F m l h H=>by
 obtain ⟨v,lk,bo⟩:=H.nm x _ hx
 exact look_eval ok H lk hd (.here H (Rep.toRS bo))
noncomputable def rd : PV → PV
 | .list xs => .rlist xs
 | .dict ks xs => .rdict ks xs
 | .obj P => .robj P
 | x=>x
theorem E.global (ok : FmOk X) {x : Str} {v : Value} {pos : Pos} (hv : nsIn X.K mainGlobals x = some (some v)) (hl : X.env.kindOf x = some .globalImplicit) (hd : (x == ("__debug__" : Str)) = false) : E X Γ (.Name x pos) (.raw v):=fun F m l h H =>
 TP.of <| T.global ok.e (H.gr ok) hv (.here H (.raw v)) hl hd
theorem E.builtin (ok : FmOk X) {x : Str} {v : Value} {pos : Pos} (hn : nsIn X.K mainGlobals x = some none) (hv : bootBuiltins x = some v) (hl : X.env.kindOf x = some .globalImplicit) (hd : (x == ("__debug__" : Str)) = false) (hx : x ≠ "__name__") : E X Γ (.Name x pos) (.raw v):=fun F m l h H =>
 TP.of <| T.builtin ok.e (H.gr ok) hn hv (.here H (.raw v)) hl hd hx
theorem E.cInt {i : Int} {k : Nat} {pos : Pos} : E X Γ (.Constant (.int i) k pos) (.int i):=fun F m l h H=>TP.of <| T.cInt fun t=>(.here H (.int i t))
theorem E.cNone {k : Nat} {pos : Pos} : E X Γ (.Constant .none k pos) .none:=fun F m l h H=>TP.of <| T.cNone (.here H (.none))
theorem E.cBool {b : Bool} {k : Nat} {pos : Pos} : E X Γ (.Constant (.bool b) k pos) (.bool b):=fun F m l h H=>TP.of <| T.cBool (.here H (.bool b))
theorem E.cStr {x : Str} {k : Nat} {pos : Pos} : E X Γ (.Constant (.str x) k pos) (.str x):=fun F m l h H=>TP.of <| T.cStr fun t=>(.here H (.str x t))
theorem E.bin {a b : PySem.Expr} {op : Operator} {pos : Pos} {x y z : PV} (ea : E X Γ a x) (eb : E X Γ b y)
  (k : ∀ F m l h u v,Holds X Γ F m l h → Rep X.prog X.w F (RS X l) u x → Rep X.prog X.w F (RS X l) v y → TP X.prog X.w X.A (binaryOp op u v) h (EP X Γ F m l z)) : E X Γ (.BinOp a op b pos) z:=fun F m l h H =>
 TP.BinOp (E.go ea H fun F₁ u h₁ le₁ H₁ r₁=>E.go eb H₁ fun F₂ v h₂ le₂ H₂ r₂ =>
  (k F₂ m l h₂ u v H₂ (r₁.mono le₂ fun zz zz e=>e) r₂).mono fun zz zz => .up fun a o e=>le₂ a o (le₁ a o e))
theorem E.add {a b : PySem.Expr} {pos : Pos} {i j : Int} (ea : E X Γ a (.int i)) (eb : E X Γ b (.int j)) : E X Γ (.BinOp a .Add b pos) (.int (i + j)):=E.bin ea eb fun F m l h u v H ru rv=>by
 obtain ⟨t₁,rfl⟩:=ru.i; obtain ⟨t₂,rfl⟩:=rv.i; exact TP.of <| T.add fun t=>(.here H (.int _ t))
theorem E.sub {a b : PySem.Expr} {pos : Pos} {i j : Int} (ea : E X Γ a (.int i)) (eb : E X Γ b (.int j)) : E X Γ (.BinOp a .Sub b pos) (.int (i - j)):=E.bin ea eb fun F m l h u v H ru rv=>by
 obtain ⟨t₁,rfl⟩:=ru.i; obtain ⟨t₂,rfl⟩:=rv.i; exact TP.of <| T.sub fun t=>(.here H (.int _ t))
theorem E.mod {a b : PySem.Expr} {pos : Pos} {i j : Int} (ea : E X Γ a (.int i)) (eb : E X Γ b (.int j)) (hj : j ≠ 0) : E X Γ (.BinOp a .Mod b pos) (.int (i.fmod j)):=E.bin ea eb fun F m l h u v H ru rv=>by
 obtain ⟨t₁,rfl⟩:=ru.i; obtain ⟨t₂,rfl⟩:=rv.i; exact TP.of <| T.mod hj fun t=>(.here H (.int _ t))
theorem E.fdiv {a b : PySem.Expr} {pos : Pos} {i j : Int} (ea : E X Γ a (.int i)) (eb : E X Γ b (.int j)) (hj : j ≠ 0) (hs : j.natAbs < 1073741824) : E X Γ (.BinOp a .FloorDiv b pos) (.int (i.fdiv j)):=E.bin ea eb fun F m l h u v H ru rv=>by
 obtain ⟨t₁,rfl⟩:=ru.i; obtain ⟨t₂,rfl⟩:=rv.i; exact TP.of <| T.fdiv hj hs fun t=>(.here H (.int _ t))
theorem E.cmp {a b : PySem.Expr} {op : CmpOp} {pos : Pos} {x y z : PV} (ea : E X Γ a x) (eb : E X Γ b y)
  (k : ∀ F m l h u v,Holds X Γ F m l h → Rep X.prog X.w F (RS X l) u x → Rep X.prog X.w F (RS X l) v y → TP X.prog X.w X.A (compareOp op u v) h (EP X Γ F m l z))
  (hm : behindInMarks op b = false:=by with_unfolding_all rfl) : E X Γ (.Compare a [op] [b] pos) z:=fun F m l h H =>
 TP.Compare (E.go ea H fun F₁ u h₁ le₁ H₁ r₁=>E.go eb H₁ fun F₂ v h₂ le₂ H₂ r₂ =>
  (k F₂ m l h₂ u v H₂ (r₁.mono le₂ fun zz zz e=>e) r₂).mono fun zz zz => .up fun a o e=>le₂ a o (le₁ a o e)) hm
theorem B.cmp {a b : PySem.Expr} {op : CmpOp} {pos : Pos} {x y : PV} {c : Bool} (ea : E X Γ a x) (eb : E X Γ b y)
  (k : ∀ F m l h u v,Holds X Γ F m l h → Rep X.prog X.w F (RS X l) u x → Rep X.prog X.w F (RS X l) v y → TP X.prog X.w X.A (compareOp op u v) h (EP X Γ F m l (.bool c)))
  (hm : behindInMarks op b = false:=by with_unfolding_all rfl) : B X Γ (.Compare a [op] [b] pos) c:=fun F m l h H =>
 TP.isTrue_Compare (E.go ea H fun F₁ u h₁ le₁ H₁ r₁=>E.go eb H₁ fun F₂ v h₂ le₂ H₂ r₂ =>
  (k F₂ m l h₂ u v H₂ (r₁.mono le₂ fun zz zz e=>e) r₂).mono fun r h₃ ⟨F₃,le₃,H₃,r₃⟩=>by
   obtain rfl:=r₃.b
   exact TP.of <| T.truthy_bool ⟨F₃,fun a o e=>le₃ a o (le₂ a o (le₁ a o e)),H₃,rfl⟩) hm
noncomputable def Cmp (X : Fm) (op : CmpOp) (x y : PV) (c : Bool) : Prop := ∀ Γ F m l h u v,Holds X Γ F m l h → Rep X.prog X.w F (RS X l) u x → Rep X.prog X.w F (RS X l) v y → TP X.prog X.w X.A (compareOp op u v) h (EP X Γ F m l (.bool c))
theorem Cmp.gt {i j : Int} : Cmp X .Gt (.int i) (.int j) (decide (j < i)):=fun Γ F m l h u v H ru rv=>by obtain ⟨t₁,rfl⟩:=ru.i; obtain ⟨t₂,rfl⟩:=rv.i; exact TP.of <| T.gt (.here H (.bool _))
theorem Cmp.le {i j : Int} : Cmp X .LtE (.int i) (.int j) (decide (i ≤ j)):=fun Γ F m l h u v H ru rv=>by obtain ⟨t₁,rfl⟩:=ru.i; obtain ⟨t₂,rfl⟩:=rv.i; exact TP.of <| T.le (.here H (.bool _))
theorem Cmp.ge {i j : Int} : Cmp X .GtE (.int i) (.int j) (decide (j ≤ i)):=fun Γ F m l h u v H ru rv=>by obtain ⟨t₁,rfl⟩:=ru.i; obtain ⟨t₂,rfl⟩:=rv.i; exact TP.of <| T.ge (.here H (.bool _))
theorem Cmp.eqI {i j : Int} : Cmp X .Eq (.int i) (.int j) (i == j):=fun Γ F m l h u v H ru rv=>by obtain ⟨t₁,rfl⟩:=ru.i; obtain ⟨t₂,rfl⟩:=rv.i; exact TP.of <| T.eqI (.here H (.bool _))
theorem Cmp.neI {i j : Int} : Cmp X .NotEq (.int i) (.int j) (i != j):=fun Γ F m l h u v H ru rv=>by obtain ⟨t₁,rfl⟩:=ru.i; obtain ⟨t₂,rfl⟩:=rv.i; exact TP.of <| T.neI (.here H (.bool _))
theorem E.compare {a b : PySem.Expr} {op : CmpOp} {pos : Pos} {x y : PV} {c : Bool} (ea : E X Γ a x) (eb : E X Γ b y) (k : Cmp X op x y c) (hm : behindInMarks op b = false:=by with_unfolding_all rfl) : E X Γ (.Compare a [op] [b] pos) (.bool c):=E.cmp ea eb (k Γ) hm
theorem B.compare {a b : PySem.Expr} {op : CmpOp} {pos : Pos} {x y : PV} {c : Bool} (ea : E X Γ a x) (eb : E X Γ b y) (k : Cmp X op x y c) (hm : behindInMarks op b = false:=by with_unfolding_all rfl) : B X Γ (.Compare a [op] [b] pos) c:=B.cmp ea eb (k Γ) hm
theorem B.and {a : PySem.Expr} {rest : List PySem.Expr} {pos : Pos} {b c : Bool} (ha : B X Γ a b) (hr : b = true → ∀ F m l h whole,Holds X Γ F m l h → TP X.prog X.w X.A (isTrue (.BoolOp .And rest pos) X.env whole) h (BP X Γ F m l c)) :
  ∀ F m l h whole,Holds X Γ F m l h → TP X.prog X.w X.A (isTrue (.BoolOp .And (a :: rest) pos) X.env whole) h (BP X Γ F m l (b && c)):=fun F m l h whole H =>
 p_isTrue_and ((ha F m l h H).mono fun d h₁ ⟨F₁,le₁,H₁,hd⟩=>by
  subst hd
  cases d with
  | true=>exact (hr rfl F₁ m l h₁ whole H₁).mono fun d h₂ ⟨F₂,le₂,H₂,hd⟩=>⟨F₂,fun a o e=>le₂ a o (le₁ a o e),H₂,by simp [hd]⟩
  | false=>exact ⟨F₁,le₁,H₁,by simp⟩)
theorem B.and0 {pos : Pos} : ∀ F m l h whole,Holds X Γ F m l h → TP X.prog X.w X.A (isTrue (.BoolOp .And [] pos) X.env whole) h (BP X Γ F m l true):=fun F m l h whole H=>p_isTrue_and0 (.here H)
theorem B.or {a : PySem.Expr} {rest : List PySem.Expr} {pos : Pos} {b c : Bool} (ha : B X Γ a b) (hr : b = false → ∀ F m l h whole,Holds X Γ F m l h → TP X.prog X.w X.A (isTrue (.BoolOp .Or rest pos) X.env whole) h (BP X Γ F m l c)) :
  ∀ F m l h whole,Holds X Γ F m l h → TP X.prog X.w X.A (isTrue (.BoolOp .Or (a :: rest) pos) X.env whole) h (BP X Γ F m l (b || c)):=fun F m l h whole H =>
 p_isTrue_or ((ha F m l h H).mono fun d h₁ ⟨F₁,le₁,H₁,hd⟩=>by
  subst hd
  cases d with
  | false=>exact (hr rfl F₁ m l h₁ whole H₁).mono fun d h₂ ⟨F₂,le₂,H₂,hd⟩=>⟨F₂,fun a o e=>le₂ a o (le₁ a o e),H₂,by simp [hd]⟩
  | true=>exact ⟨F₁,le₁,H₁,by simp⟩)
theorem B.or0 {pos : Pos} : ∀ F m l h whole,Holds X Γ F m l h → TP X.prog X.w X.A (isTrue (.BoolOp .Or [] pos) X.env whole) h (BP X Γ F m l false):=fun F m l h whole H=>p_isTrue_or0 (.here H)
theorem B.all {e : PySem.Expr} {c : Bool} (x : ∀ F m l h whole,Holds X Γ F m l h → TP X.prog X.w X.A (isTrue e X.env whole) h (BP X Γ F m l c)) : B X Γ e c:=fun F m l h H=>x F m l h _ H
theorem E.ifExp {test body orelse : PySem.Expr} {pos : Pos} {b : Bool} {x : PV} (ht : B X Γ test b) (h1 : b = true → E X Γ body x) (h2 : b = false → E X Γ orelse x) : E X Γ (.IfExp test body orelse pos) x:=fun F m l h H =>
 p_IfExp ((ht F m l h H).mono fun c h' ⟨F',le,H',hc⟩=>by
  subst hc
  cases c with
  | true=>exact E.go (h1 rfl) H' fun F₂ v h₂ le₂ H₂ r=>⟨F₂,fun a o e=>le₂ a o (le a o e),H₂,r⟩
  | false=>exact E.go (h2 rfl) H' fun F₂ v h₂ le₂ H₂ r=>⟨F₂,fun a o e=>le₂ a o (le a o e),H₂,r⟩)
end
end Mine
end
section
namespace Mine
inductive Out
 | next (Γ : Ctx)
 | brk (Γ : Ctx)
 | cont (Γ : Ctx)
 | ret (p : PV) (Γ : Ctx)
section
variable {X : Fm} {Γ Γ' : Ctx} {F F' : Store} {m : Str → Option Value} {l : List (Addr × Obj)} {h h' : Heap}
inductive ON (X : Fm) (F : Store) (q : Ctx → Prop) (h : Heap) : Prop
 | mk (Γ' : Ctx) (F' : Store) (m : Str → Option Value) (l : List (Addr × Obj)) : (∀ a o,F a o → F' a o) → Holds X Γ' F' m l h → q Γ' → ON X F q h
inductive OR (X : Fm) (F : Store) (v : Value) (q : PV → Ctx → Prop) (h : Heap) : Prop
 | mk (p : PV) (Γ' : Ctx) (F' : Store) (m : Str → Option Value) (l : List (Addr × Obj)) : (∀ a o,F a o → F' a o) → Holds X Γ' F' m l h → Rep X.prog X.w F' X.XR v p → q p Γ' → OR X F v q h
theorem ON.up {q q' : Ctx → Prop} (le : ∀ a o,F a o → F' a o) (k : ∀ Γ,q Γ → q' Γ) : ON X F' q h → ON X F q' h
 | ⟨Γ',F2,m,l,le2,H,z⟩=>⟨Γ',F2,m,l,fun a o e=>le2 a o (le a o e),H,k _ z⟩
theorem OR.up {v : Value} {q q' : PV → Ctx → Prop} (le : ∀ a o,F a o → F' a o) (k : ∀ p Γ,q p Γ → q' p Γ) : OR X F' v q h → OR X F v q' h
 | ⟨p,Γ',F2,m,l,le2,H,r,z⟩=>⟨p,Γ',F2,m,l,fun a o e=>le2 a o (le a o e),H,r,k _ _ z⟩
noncomputable def OutOk (X : Fm) (F : Store) (Q : Out → Prop) : Flow → Heap → Prop
 | .next,h=>ON X F (fun Γ'=>Q (.next Γ')) h
 | .brk,h=>ON X F (fun Γ'=>Q (.brk Γ')) h
 | .cont,h=>ON X F (fun Γ'=>Q (.cont Γ')) h
 | .ret v,h=>OR X F v (fun p Γ'=>Q (.ret p Γ')) h
theorem OutOk.mono {Q Q' : Out → Prop} {f : Flow} (le : ∀ a o,F a o → F' a o) (x : OutOk X F' Q f h) (q : ∀ o,Q o → Q' o) : OutOk X F Q' f h:=by
 cases f with
 | next=>exact ON.up le (fun zz=>q _) x
 | brk=>exact ON.up le (fun zz=>q _) x
 | cont=>exact ON.up le (fun zz=>q _) x
 | ret v=>exact OR.up le (fun zz zz=>q _) x
noncomputable def Ex (X : Fm) (Γ : Ctx) (ss : List Stmt) (Q : Out → Prop) : Prop := ∀ F m l h,Holds X Γ F m l h → TP X.prog X.w X.A (execs ss X.env) h (OutOk X F Q)
noncomputable def ExL (lo : Nat) (X : Fm) (Γ : Ctx) (ss : List Stmt) (Q : Out → Prop) : Prop := ∀ F m l h,Holds X Γ F m l h → TPL lo X.prog X.w X.A (execs ss X.env) h (OutOk X F Q)
noncomputable def Kx (X : Fm) (rest : List Stmt) (Q : Out → Prop) : Out → Prop
 | .next Γ=>Ex X Γ rest Q
 | o=>Q o
theorem Ex.nil {Q : Out → Prop} (q : Q (.next Γ)) : Ex X Γ [] Q:=fun F m l h H=>TP.execs_nil ⟨Γ,F,m,l,fun zz zz e=>e,H,q⟩
theorem Ex.weak {ss : List Stmt} {Q : Out → Prop} (hs : ∀ x b,Γ'.lookup x = some b → Γ.lookup x = some b) (x : Ex X Γ' ss Q) : Ex X Γ ss Q:=fun F m l h H=>x F m l h (H.weak hs)
theorem ExL.cons {lo : Nat} {s : Stmt} {rest : List Stmt} {Q : Out → Prop} (x : ∀ F m l h,Holds X Γ F m l h → TPL lo X.prog X.w X.A (exec s X.env) h (OutOk X F (Kx X rest Q))) : ExL lo X Γ (s :: rest) Q:=fun F m l h H =>
 TPL.execs_cons ((x F m l h H).mono fun f h₁ z=>by
  cases f with
  | next =>
   obtain ⟨Γ',F',m',l',le,H',q⟩:=z
   exact (q F' m' l' h₁ H').mono fun f h₂ z=>z.mono le fun zz q=>q
  | brk=>exact z
  | cont=>exact z
  | ret v=>exact z)
theorem Ex.cons {s : Stmt} {rest : List Stmt} {Q : Out → Prop} (x : ∀ F m l h,Holds X Γ F m l h → TP X.prog X.w X.A (exec s X.env) h (OutOk X F (Kx X rest Q))) : Ex X Γ (s :: rest) Q:=ExL.cons (lo:=1) x
theorem sub_nil : ∀ x b,([] : Ctx).lookup x = some b → Γ.lookup x = some b:=fun x b e=>by simp at e
theorem sub_cons {y : Str} {c : Bind} (e : Γ.lookup y = some c) (r : ∀ x b,Γ'.lookup x = some b → Γ.lookup x = some b) : ∀ x b,((y,c) :: Γ').lookup x = some b → Γ.lookup x = some b:=fun x b q=>by
 rw [List.lookup_cons] at q
 by_cases z : x = y
 ·subst z; simp at q; subst q; exact e
 ·have : (x == y) = false:=by simpa using z
  rw [this] at q; exact r x b q
theorem look_here {y : Str} {c : Bind} : List.lookup y ((y,c) :: Γ) = some c:=by simp
theorem look_next {x y : Str} {c : Bind} {r : Option Bind} (n : x ≠ y) (e : List.lookup x Γ = r) : List.lookup x ((y,c) :: Γ) = r:=by
 rw [List.lookup_cons]
 have : (x == y) = false:=by simpa using n
 rw [this]; exact e
theorem isCel_lst {o : Obj} {v : Option Value} {p : PV} {F R : Store} (hc : IsCel o v) (oR : ORep X.prog X.w F R o p) : False:=by
 unfold IsCel at hc
 cases oR with
 | list h1 h2=>obtain ⟨n,rfl⟩:=h1; cases hc
 | dict h1 h2 h3 =>
  obtain ⟨es,n,_,e,_⟩:=h1
  rw [e] at hc; cases hc
 | obj h1=>exact h1.nc _ hc
theorem Look.fn (ok : FmOk X) (H : Holds X Γ F m l h) {x : Str} {u v : Value} (a : Look X m l x u) (b : Look X m l x v) : u = v:=by
 rcases a with ⟨k,e⟩ | ⟨c,o,k,hc,ho,hv⟩
 ·rcases b with ⟨k',e'⟩ | ⟨c',o',k',_⟩
  ·rw [e] at e'; exact Option.some.inj e'
  ·rw [k] at k'; cases k'
 ·rcases b with ⟨k',e'⟩ | ⟨c',o',k',hc',ho',hv'⟩
  ·rw [k] at k'; cases k'
  ·rw [hc] at hc'
   obtain rfl:=Option.some.inj hc'
   have g:=H.rs ok (ho.elim .inr .inl)
   rw [H.rs ok (ho'.elim .inr .inl)] at g
   obtain rfl:=Option.some.inj g
   rw [IsCel] at hv hv'
   rw [hv] at hv'
   cases hv'; rfl
theorem S.one (H : S h₀ D L m l h) {a : Addr} {o o' : Obj} (h1 : (a,o) ∈ l) (h2 : (a,o') ∈ l) : o = o':=by
 have e:=H.led _ h1
 rw [H.led _ h2] at e
 exact (Option.some.inj e).symm
theorem lv_store {Q : Unit → Heap → Prop} (e : EnvOk env) (H : S h₀ D env.locals m l h) (q : ∀ h',Sub [env.locals] h h' → S h₀ D env.locals (upd m x v) l h' → Q () h') (hl : env.kindOf x = some .local) : T prog w A (storeName env x v) h Q :=
 fun s es=>by subst es; exact wpAny_storeName_local hl H.ns (fun h' hn hs=>⟨h',_,q h' (Sub.same hs) (H.store hn hs)⟩) (notTop e)
noncomputable def Sto (X : Fm) (x : Str) : Prop:=X.env.kindOf x = some .local ∨ (X.env.kindOf x = some .cell ∧ ∃ c,X.env.cells.lookup x = some c ∧ X.h₀.get? c = none)
theorem mem_set {l : List (Addr × Obj)} {i : Nat} {a b : Addr} {o o' p : Obj} (hi : l[i]? = some (a,o)) (hb : (b,p) ∈ l) (n : b ≠ a) : (b,p) ∈ l.set i (a,o'):=by
 obtain ⟨j,hj,e⟩:=List.getElem_of_mem hb
 have hij : i ≠ j:=fun q=>by
  subst q
  rw [List.getElem?_eq_getElem hj,e] at hi
  cases hi; exact n rfl
 rw [List.mem_iff_getElem]
 exact ⟨j,by simpa using hj,by rw [List.getElem_set,if_neg hij]; exact e⟩
set_option tactic.hygienic true in
theorem map_set {l : List (Addr × Obj)} {i : Nat} {a : Addr} {o o' : Obj} (hi : l[i]? = some (a,o)) : (l.set i (a,o')).map (·.1) = l.map (·.1):=by
 rw [List.map_set]
 refine List.ext_getElem (by walk_at "ms") fun j h1 h2 => ?_
 rw [List.getElem_set]
 split
 ·rename_i e; subst e
  have hi' : i < l.length:=by simpa using h2
  rw [List.getElem?_eq_getElem hi'] at hi
  have:=Option.some.inj hi
  simp [this]
 ·rfl
inductive AP (X : Fm) (Γ : Ctx) (F : Store) (h' : Heap) : Prop
 | mk (m' : Str → Option Value) (l' : List (Addr × Obj)) : Holds X Γ F m' l' h' → AP X Γ F h'
inductive WP (X : Fm) (Γ : Ctx) (F : Store) (l : List (Addr × Obj)) (L : List (Addr × Obj) → Prop) (h' : Heap) : Prop
 | mk (m' : Str → Option Value) (l' : List (Addr × Obj)) : Holds X Γ F m' l' h' → L l' → l'.map (·.1) = l.map (·.1) → (∀ c o,(c,o) ∈ l → (∃ u,IsCel o u) ∨ (c,o) ∈ l') → WP X Γ F l L h'
theorem Holds.putW (ok : FmOk X) (H : Holds X Γ F m l h) {x : Str} {v : Value} {b : Bind} (hx : Sto X x) (hb : ∀ l',(∀ c o,(c,o) ∈ l → (∃ u,IsCel o u) ∨ (c,o) ∈ l') → BindOk X F l' v b)
  (hinj : ∀ a,a ∈ b.addrs → ∀ y c,y ≠ x → Γ.lookup y = some c → a ∉ c.addrs) :
  TP X.prog X.w X.A (storeName X.env x v) h fun zz h'=>WP X ((x,b) :: Γ) F l (fun l'=>X.env.kindOf x = some .local → l' = l ∧ Sub [X.env.locals] h h') h':=by
 have later : ∀ {h' : Heap} {m' : Str → Option Value} {l' : List (Addr × Obj)},(∀ y u,y ≠ x → Look X m l y u → Look X m' l' y u) → Look X m' l' x v → (∀ c o,(c,o) ∈ l → (∃ u,IsCel o u) ∨ (c,o) ∈ l') → S X.h₀ X.D X.env.locals m' l' h' → (∀ a o,F a o → h'.get? a = some o) → l'.map (·.1) = l.map (·.1) → (∀ y c,X.env.cells.lookup y = some c → X.h₀.get? c = none → ∃ o v,(c,o) ∈ l' ∧ IsCel o v) → Holds X ((x,b) :: Γ) F m' l' h':=by
  intro h' m' l' k1 kx kl hs hf hm hc
  refine { s:=hs,fz:=fun a o e=>⟨hf a o e,(H.fz a o e).2.1,hm ▸ (H.fz a o e).2.2⟩,fn:=H.fn,f0:=H.f0,nm:=fun y c e => ?_,inj:=fun y z p q a e1 e2 a1 a2 => ?_,cel:=hc,pl:=H.pl.to fun c o q p=>(kl c o q).elim (fun ⟨u,hu⟩=>by obtain ⟨ps,e,_⟩:=p; rw [IsCel,e] at hu; cases hu) id }
  ·by_cases hy : y = x
   ·subst hy
    rw [look_here] at e; cases e
    exact ⟨v,kx,hb l' kl⟩
   ·rw [look_next hy rfl] at e
    obtain ⟨u,lk,bo⟩:=H.nm y c e
    refine ⟨u,k1 y u hy lk,bo.mono (fun zz zz e=>e) fun a o ha hl => ?_⟩
    obtain ⟨o',h1,h2⟩:=bo.mem ha
    rw [H.s.one hl h1]
    exact (kl a o' h1).elim (fun ⟨u,q⟩=>(h2 _ q).elim) id
  ·by_cases hy : y = x
   ·by_cases hz : z = x
    ·rw [hy,hz]
    ·exfalso
     rw [look_next hz rfl] at e2
     subst hy
     rw [look_here] at e1; cases e1
     exact hinj a a1 z q hz e2 a2
   ·rw [look_next hy rfl] at e1
    by_cases hz : z = x
    ·exfalso
     subst hz
     rw [look_here] at e2; cases e2
     exact hinj a a2 y p hy e1 a1
    ·rw [look_next hz rfl] at e2
     exact H.inj y z p q a e1 e2 a1 a2
 rcases hx with hl | ⟨hk,c,hc,hn⟩
 ·refine TP.of (lv_store ok.e H.s (fun h₁ s₁ S₁=>⟨upd m x v,l, ?_,fun zz=>⟨rfl,s₁⟩,rfl,fun zz zz q => .inr q⟩) hl)
  refine later (h':=h₁) (fun y u hy lk => ?_) (.inl ⟨hl,upd_here⟩) (fun zz zz q => .inr q) S₁ (fun a o e=>s₁ _ _ (by simpa using (H.fz a o e).2.1) (H.fz a o e).1) rfl H.cel
  exact lk.imp (fun q=>⟨q.1,by rw [upd,if_neg hy]; exact q.2⟩) id
 ·obtain ⟨o,u,ho,hv⟩:=H.cel x c hc hn
  refine TP.of (t_storeCell ok.e hk hc (H.s.led _ ho) hv fun h₁ o₁ s₁ g₁ c₁ => ?_)
  obtain ⟨i,hi,e⟩:=List.getElem_of_mem ho
  have hi' : l[i]? = some (c,o):=by rw [List.getElem?_eq_getElem hi,e]
  have S₁:=H.s.upd i hi' s₁ g₁
  have here : (c,o₁) ∈ l.set i (c,o₁):=List.mem_iff_getElem.mpr ⟨i,by simpa using hi,by simp⟩
  have kl : ∀ b p,(b,p) ∈ l → (∃ u,IsCel p u) ∨ (b,p) ∈ l.set i (c,o₁):=fun b p q=>by
   by_cases z : b = c
   ·subst z
    rw [H.s.one q ho]; exact .inl ⟨u,hv⟩
   ·exact .inr (mem_set hi' q z)
  refine ⟨m,_,later (h':=h₁) (fun y u hy lk => ?_) (.inr ⟨c,o₁,hk,hc,.inl here,c₁⟩) kl S₁ (fun a o e=>s₁ _ _ ?_ (H.fz a o e).1) (map_set hi') (fun y b hy hb' => ?_),(fun q=>by rw [hk] at q; cases q),map_set hi',kl⟩
  ·refine lk.imp id ?_
   rintro ⟨b,p,k1,k2,k3,k4⟩
   refine ⟨b,p,k1,k2,k3.imp (fun q=>mem_set hi' q fun z => ?_) id,k4⟩
   subst z; exact hy (ok.cinj _ _ _ k2 hc)
  ·have:=(H.fz a o e).2.2
   intro q
   obtain rfl : a = c:=by simpa using q
   exact this (List.mem_map_of_mem ho)
  ·by_cases z : b = c
   ·subst z; exact ⟨o₁,_,here,c₁⟩
   ·obtain ⟨o',v',h1,h2⟩:=H.cel y b hy hb'
    exact ⟨o',v',mem_set hi' h1 z,h2⟩
theorem Holds.put (ok : FmOk X) (H : Holds X Γ F m l h) {x : Str} {v : Value} {b : Bind} (hx : Sto X x) (hb : ∀ l',(∀ c o,(c,o) ∈ l → (∃ u,IsCel o u) ∨ (c,o) ∈ l') → BindOk X F l' v b)
  (hinj : ∀ a,a ∈ b.addrs → ∀ y c,y ≠ x → Γ.lookup y = some c → a ∉ c.addrs) :
  TP X.prog X.w X.A (storeName X.env x v) h fun zz h' => ∃ m' l',Holds X ((x,b) :: Γ) F m' l' h' ∧ (X.env.kindOf x = some .local → l' = l ∧ Sub [X.env.locals] h h'):=(H.putW ok hx hb hinj).mono fun _ h' ⟨m',l',H',q,_,_⟩=>⟨m',l',H',q⟩
theorem Holds.putF (ok : FmOk X) (H : Holds X Γ F m l h) {x : Str} {v : Value} {p : PV} (hx : Sto X x) (r : Rep X.prog X.w F X.XR v p) : TP X.prog X.w X.A (storeName X.env x v) h fun zz=>AP X ((x,.fz p) :: Γ) F :=
 (H.put (b := .fz p) ok hx (fun zz zz=>r) fun a q=>by cases q).mono fun _ h' ⟨m',l',H',_⟩=>⟨m',l',H'⟩
theorem Holds.putL (ok : FmOk X) (H : Holds X Γ F m l h) {x : Str} {v : Value} {p : PV} (hx : X.env.kindOf x = some .local) (r : Rep X.prog X.w F X.XR v p) : TP X.prog X.w X.A (storeName X.env x v) h fun zz h' => ∃ m',Holds X ((x,.fz p) :: Γ) F m' l h' :=
 (H.put (b := .fz p) ok (.inl hx) (fun zz zz=>r) fun a q=>by cases q).mono fun _ h' ⟨m',l',H',e⟩=>⟨m',(e hx).1 ▸ H'⟩
theorem Holds.track (ok : FmOk X) (H : Holds X Γ F m l h) {a : Addr} {o : Obj} (fr : Fresh X F l a) (ho : h.get? a = some o) : Holds X Γ F m (l ++ [(a, o)]) h :=
  { s := H.s.track ho fr.new fr.offL fr.offl
    fz := fun b p e => ⟨(H.fz b p e).1, (H.fz b p e).2.1, by
      rw [List.map_append, List.mem_append]
      rintro (q | q)
      · exact (H.fz b p e).2.2 q
      · obtain rfl : b = a := by simpa using q
        exact fr.offF p e⟩
    fn := H.fn
    f0 := H.f0
    nm := fun x b e => by
      obtain ⟨v, lk, bo⟩ := H.nm x b e
      exact ⟨v, lk.imp id fun ⟨c, o, k1, k2, k3, k4⟩ => ⟨c, o, k1, k2, k3.imp (fun q => List.mem_append_left _ q) id, k4⟩, bo.mono (fun zz zz e => e) fun zz zz zz q => List.mem_append_left _ q⟩
    inj := H.inj
    cel := fun x c e1 e2 => by
      obtain ⟨o, v, h1, h2⟩ := H.cel x c e1 e2
      exact ⟨o, v, List.mem_append_left _ h1, h2⟩
    pl := H.pl.to fun zz zz q zz => List.mem_append_left _ q }
end
end Mine
end
section
namespace Mine
section
variable {X : Fm} {Γ Γ' : Ctx} {F F' : Store} {m : Str → Option Value} {l : List (Addr × Obj)} {h h' : Heap} {Q : Out → Prop} {rest : List Stmt}
theorem Rep.noXR {v : Value} {p : PV} (r : Rep X.prog X.w F (RS X l) v p) (s : Safe p) : Rep X.prog X.w F X.XR v p:=r.safe s
theorem Ex.assign (ok : FmOk X) {x : Str} {px pos : Pos} {e : PySem.Expr} {p : PV} (ee : E X Γ e p) (hp : Safe p) (hx : Sto X x) (r : Ex X ((x,.fz p) :: Γ) rest Q)
  (hs : swapsWith e (some (.Name x px)) pos.line X.env = Pure.pure false:=by rfl) : Ex X Γ (.Assign [.Name x px] e pos :: rest) Q := .cons fun F m l h H =>
 TP.Assign_Name (E.go ee H fun F₁ v h₁ le₁ H₁ r₁=>(H₁.putF ok hx (r₁.noXR hp)).mono fun _ h₂ ⟨m',l',H₂⟩=>⟨_,F₁,m',l',le₁,H₂,r⟩) hs
theorem Holds.putO (ok : FmOk X) (H : Holds X Γ F m l h) {x : Str} {a : Addr} {o : Obj} {p : PV} (hx : Sto X x) (fr : Fresh X F l a) (ho : h.get? a = some o) (oR : ORep X.prog X.w F (RS X l) o p) (hp : Safe p) : TP X.prog X.w X.A (storeName X.env x (.ref a)) h fun zz h' => ∃ m' l',Holds X ((x,.own a p) :: Γ) F m' l' h' ∧ (X.env.kindOf x = some .local → l' = l ++ [(a,o)] ∧ Sub [X.env.locals] h h'):=by
 refine (H.track ok fr ho).put (b := .own a p) ok hx (fun l' kl=>⟨o,rfl, ?_,oR.safe hp⟩) fun b e1 y r hy hr e2 => ?_
 ·exact (kl a o (by walk_at "ms")).elim (fun ⟨u,q⟩=>(isCel_lst q oR).elim) id
 ·obtain rfl : b = a:=by simpa [Bind.addrs] using e1
  obtain ⟨v,lk,bo⟩:=H.nm y r hr
  obtain ⟨o',h1,_⟩:=bo.mem e2
  exact fr.offl (List.mem_map_of_mem h1)
theorem Ex.assignN (ok : FmOk X) {x : Str} {px pos : Pos} {e : PySem.Expr} {p : PV} (ee : N X Γ e p) (hp : Safe p) (hx : Sto X x) (r : ∀ a,a ∉ X.D → Ex X ((x,.own a p) :: Γ) rest Q)
  (hs : swapsWith e (some (.Name x px)) pos.line X.env = Pure.pure false:=by rfl) : Ex X Γ (.Assign [.Name x px] e pos :: rest) Q := .cons fun F m l h H =>
 TP.Assign_Name ((ee F m l h H).mono fun v h₁ ⟨F₁,a,o,le₁,H₁,hv,ho,fr,oR⟩=>by
  subst hv
  exact (H₁.putO ok hx fr ho oR hp).mono fun _ h₂ ⟨m',l',H₂,_⟩=>⟨_,F₁,m',l',le₁,H₂,r a fun z=>fr.offl (H₁.s.dl a z)⟩) hs
theorem Ex.ite {test : PySem.Expr} {body orelse : List Stmt} {pos : Pos} {c : Bool} (t : B X Γ test c) (h1 : c = true → Ex X Γ body (Kx X rest Q)) (h2 : c = false → Ex X Γ orelse (Kx X rest Q)) : Ex X Γ (.If test body orelse pos :: rest) Q := .cons fun F m l h H =>
 TP.If ((t F m l h H).mono fun b h₁ ⟨F₁,le₁,H₁,hb⟩=>by
  subst hb
  cases b with
  | true=>exact (h1 rfl F₁ m l h₁ H₁).mono fun f h₂ z=>z.mono le₁ fun zz q=>q
  | false=>exact (h2 rfl F₁ m l h₁ H₁).mono fun f h₂ z=>z.mono le₁ fun zz q=>q)
theorem Ex.ret {e : PySem.Expr} {pos : Pos} {p : PV} (ee : E X Γ e p) (hp : Safe p) (q : Q (.ret p Γ)) : Ex X Γ (.Return (some e) pos :: rest) Q := .cons fun F m l h H =>
 TP.Return (E.go ee H fun F₁ v h₁ le₁ H₁ r₁=>⟨p,Γ,F₁,m,l,le₁,H₁,r₁.noXR hp,q⟩)
theorem Ex.done (r : Ex X Γ rest Q) : Kx X rest Q (.next Γ):=r
theorem Holds.turnD (ok : FmOk X) (H : Holds X Γ F m l h) {x : Str} {b b' : Bind} {v : Value} {a : Addr} {o o' : Obj} (hx : Γ.lookup x = some b) (ha : a ∈ b.addrs) (ha' : ∀ c,c ∈ b'.addrs → c ∈ b.addrs) (lk : Look X m l x v) (hl : (a,o) ∈ l) (nc : ∀ u,o.data ≠ .cell u) (nc' : ∀ u,o'.data ≠ .cell u) (np : ¬ IsPl o ∨ IsPl o') (s : Sub [a] h h') (ho : h'.get? a = some o')
  (bo : ∀ l',(a,o') ∈ l' → (∀ c oc,(c,oc) ∈ l → c ≠ a → (c,oc) ∈ l') → BindOk X F l' v b') : ∃ l',l'.map (·.1) = l.map (·.1) ∧ Holds X ((x,b') :: Γ) F m l' h':=by
 obtain ⟨i,hi,eI⟩:=List.getElem_of_mem hl
 have hi' : l[i]? = some (a,o):=by rw [List.getElem?_eq_getElem hi,eI]
 have S₁:=H.s.upd i hi' s ho
 have here : (a,o') ∈ l.set i (a,o'):=List.mem_iff_getElem.mpr ⟨i,by simpa using hi,by simp⟩
 have ncel : ∀ {c oc u},(c,oc) ∈ l → IsCel oc u → c ≠ a:=fun h1 h2 z=>by
  subst z
  rw [H.s.one h1 hl] at h2
  exact nc _ h2
 have lk1 : ∀ {y u},Look X m l y u → Look X m (l.set i (a,o')) y u:=fun lk=>lk.imp id fun ⟨c,oc,k1,k2,k3,k4⟩=>⟨c,oc,k1,k2,k3.imp (fun q=>mem_set hi' q (ncel q k4)) id,k4⟩
 refine ⟨_,map_set hi',{ s:=S₁,fz:=fun b q e=>⟨s _ _ ?_ (H.fz b q e).1,(H.fz b q e).2.1,(map_set hi') ▸ (H.fz b q e).2.2⟩,fn:=H.fn,f0:=H.f0,nm:=fun y c e => ?_,inj:=fun y z q r b e1 e2 a1 a2 => ?_,cel:=fun y c e1 e2 => ?_,pl:=fun q hq => ?_ }⟩
 ·have:=(H.fz b q e).2.2
  intro z
  obtain rfl : b = a:=by simpa using z
  exact this (List.mem_map_of_mem hl)
 ·by_cases hy : y = x
  ·subst hy
   rw [look_here] at e; cases e
   exact ⟨v,lk1 lk,bo _ here fun c oc q n=>mem_set hi' q n⟩
  ·rw [look_next hy rfl] at e
   obtain ⟨u,lku,bo⟩:=H.nm y c e
   refine ⟨u,lk1 lku,bo.mono (fun zz zz e=>e) fun b ob hb q=>mem_set hi' q fun z => ?_⟩
   subst z
   exact hy (H.inj _ _ _ _ _ e hx hb ha)
 ·by_cases hy : y = x
  ·by_cases hz : z = x
   ·rw [hy,hz]
   ·exfalso
    subst hy
    rw [look_next hz rfl] at e2
    rw [look_here] at e1; cases e1
    exact hz (H.inj _ _ _ _ _ e2 hx a2 (ha' _ a1))
  ·rw [look_next hy rfl] at e1
   by_cases hz : z = x
   ·exfalso
    subst hz
    rw [look_here] at e2; cases e2
    exact hy (H.inj _ _ _ _ _ e1 hx a1 (ha' _ a2))
   ·rw [look_next hz rfl] at e2
    exact H.inj y z q r b e1 e2 a1 a2
 ·obtain ⟨oc,v,h1,h2⟩:=H.cel y c e1 e2
  exact ⟨oc,v,mem_set hi' h1 (ncel h1 h2),h2⟩
 ·obtain ⟨oq,h1,h2⟩:=H.pl q hq
  by_cases z : q = a
  ·subst z
   rw [H.s.one h1 hl] at h2
   exact np.elim (fun n=>absurd h2 n) fun n=>⟨o',here,n⟩
  ·exact ⟨oq,mem_set hi' h1 z,h2⟩
theorem Holds.turnC (ok : FmOk X) (H : Holds X Γ F m l h) {x : Str} {b b' : Bind} {v : Value} {a : Addr} {o o' : Obj} (hx : Γ.lookup x = some b) (ha : a ∈ b.addrs) (ha' : ∀ c,c ∈ b'.addrs → c ∈ b.addrs) (lk : Look X m l x v) (hl : (a,o) ∈ l) (nc : ∀ u,o.data ≠ .cell u) (nc' : ∀ u,o'.data ≠ .cell u) (np : ¬ IsPl o) (s : Sub [a] h h') (ho : h'.get? a = some o')
  (bo : ∀ l',(a,o') ∈ l' → (∀ c oc,(c,oc) ∈ l → c ≠ a → (c,oc) ∈ l') → BindOk X F l' v b') : ∃ l',l'.map (·.1) = l.map (·.1) ∧ Holds X ((x,b') :: Γ) F m l' h':=H.turnD ok hx ha ha' lk hl nc nc' (.inl np) s ho bo
theorem Holds.turnB (ok : FmOk X) (H : Holds X Γ F m l h) {x : Str} {b b' : Bind} {v : Value} {a : Addr} {o o' : Obj} (hx : Γ.lookup x = some b) (ha : a ∈ b.addrs) (ha' : ∀ c,c ∈ b'.addrs → c ∈ b.addrs) (lk : Look X m l x v) (hl : (a,o) ∈ l) (nc : ∀ u,o.data ≠ .cell u) (nc' : ∀ u,o'.data ≠ .cell u) (np : ¬ IsPl o) (s : Sub [a] h h') (ho : h'.get? a = some o')
  (bo : ∀ l',(a,o') ∈ l' → (∀ c oc,(c,oc) ∈ l → c ≠ a → (c,oc) ∈ l') → BindOk X F l' v b') : ∃ l',Holds X ((x,b') :: Γ) F m l' h':=let ⟨l',_,H'⟩:=H.turnC ok hx ha ha' lk hl nc nc' np s ho bo; ⟨l',H'⟩
theorem Holds.rebindL (H : Holds X Γ F m l h) {x : Str} {b b' : Bind} (hx : Γ.lookup x = some b) (ha : ∀ c,c ∈ b'.addrs → c ∈ b.addrs) (k : ∀ v,Look X m l x v → BindOk X F l v b → BindOk X F l v b') : Holds X ((x,b') :: Γ) F m l h where
 s:=H.s
 fz:=H.fz
 fn:=H.fn
 f0:=H.f0
 nm:=fun y c e=>by
  by_cases hy : y = x
  ·subst hy
   rw [look_here] at e; cases e
   obtain ⟨v,lk,bo⟩:=H.nm y b hx
   exact ⟨v,lk,k v lk bo⟩
  ·rw [look_next hy rfl] at e
   exact H.nm y c e
 inj:=fun y z p q a e1 e2 a1 a2=>by
  have e1' : ∃ p',Γ.lookup y = some p' ∧ a ∈ p'.addrs:=by
   by_cases hy : y = x
   ·subst hy; rw [look_here] at e1; cases e1; exact ⟨b,hx,ha _ a1⟩
   ·rw [look_next hy rfl] at e1; exact ⟨p,e1,a1⟩
  have e2' : ∃ p',Γ.lookup z = some p' ∧ a ∈ p'.addrs:=by
   by_cases hy : z = x
   ·subst hy; rw [look_here] at e2; cases e2; exact ⟨b,hx,ha _ a2⟩
   ·rw [look_next hy rfl] at e2; exact ⟨q,e2,a2⟩
  obtain ⟨p',e3,a3⟩:=e1'
  obtain ⟨q',e4,a4⟩:=e2'
  exact H.inj y z p' q' a e3 e4 a3 a4
 cel:=H.cel
 pl:=H.pl
theorem orep_nc {prog : Program} {w : World} {F R : Store} {o : Obj} {p : PV} (oR : ORep prog w F R o p) : ∀ u,o.data ≠ .cell u:=fun u hu=>by
 cases oR with
 | list h1 h2=>obtain ⟨n,rfl⟩:=h1; cases hu
 | dict h1 h2 h3 =>
  obtain ⟨es,n,_,e,_⟩:=h1
  rw [e] at hu; cases hu
 | obj h1=>exact h1.nc u hu
theorem orep_np {prog : Program} {w : World} {F R : Store} {o : Obj} {p : PV} (oR : ORep prog w F R o p) : ¬ IsPl o:=fun ⟨ps,hu,_⟩=>by
 cases oR with
 | list h1 h2=>obtain ⟨n,rfl⟩:=h1; cases hu
 | dict h1 h2 h3 =>
  obtain ⟨es,n,_,e,_⟩:=h1
  rw [e] at hu; cases hu
 | obj h1=>obtain ⟨es,ep,e⟩:=h1.dat; rw [e] at hu; cases hu
theorem Holds.turn (ok : FmOk X) (H : Holds X Γ F m l h) {x : Str} {p p' : PV} {a : Addr} {o o' : Obj} (hx : Γ.lookup x = some (.own a p)) (lk : Look X m l x (.ref a)) (hl : (a,o) ∈ l) (oR : ORep X.prog X.w F X.XR o p) (s : Sub [a] h h') (ho : h'.get? a = some o') (oR' : ORep X.prog X.w F X.XR o' p') :
  ∃ l',Holds X ((x,.own a p') :: Γ) F m l' h':=H.turnB ok hx (.head _) (fun zz q=>q) lk hl (orep_nc oR) (orep_nc oR') (orep_np oR) s ho fun l' hl' zz=>⟨o',rfl,hl',oR'⟩
theorem Holds.own (H : Holds X Γ F m l h) {x : Str} {a : Addr} {p : PV} (hx : Γ.lookup x = some (.own a p)) : ∃ o,Look X m l x (.ref a) ∧ (a,o) ∈ l ∧ ORep X.prog X.w F X.XR o p:=by
 obtain ⟨v,lk,o,rfl,h2,h3⟩:=H.nm x _ hx
 exact ⟨o,lk,h2,h3⟩
theorem Ex.append (ok : FmOk X) {pl : Sem Bool} {x : Str} {px pa pc pos : Pos} {e : PySem.Expr} {a : Addr} {xs : List PV} {p : PV} (hx : Γ.lookup x = some (.own a (.list xs))) (ee : E X Γ e p) (hp : Safe p) (hsz : xs.length ≤ 1000000) (hst : noStars [e] = true) (hd : (x == ("__debug__" : Str)) = false)
  (he : ∀ Q' h,(TP X.prog X.w X.A (eval (.Name x px) X.env) h fun ov h₁=>TP X.prog X.w X.A (getMethod ov "append" pl) h₁ fun fx h₂=>TP X.prog X.w X.A (PySem.callWith pc fx.1 fx.2 (backTo pc (starEach [e] X.env)) []) h₂ Q') → TP X.prog X.w X.A (eval (.Call (.Attribute (.Name x px) "append" pa) [e] [] pc) X.env) h Q')
  (r : Ex X ((x,.own a (.list (xs ++ [p]))) :: Γ) rest Q) (hs : swapsWith (.Call (.Attribute (.Name x px) "append" pa) [e] [] pc) none pos.line X.env = Pure.pure false:=by rfl) : Ex X Γ (.Expr (.Call (.Attribute (.Name x px) "append" pa) [e] [] pc) pos :: rest) Q := .cons fun F m l h H=>by
 refine TP.Expr (he _ _ ?_) ok.e.inter hs
 obtain ⟨o,lk,hl,oR⟩:=H.own hx
 refine look_eval ok H lk hd ?_
 cases oR with
 | list lst rs =>
  have g:=H.s.led _ hl
  refine TP.of (t_getMethodB g lst.cls.1 lst.cls.2 PySem.F.plainAttrs_list PySem.F.slot_list_append PySem.F.type_list_append ?_)
  refine TP.callWith (E.go ee H fun F₁ v h₁ le₁ H₁ r₁=>⟨Keeps.builtin, ?_⟩) hst
  refine TP.of (t_append (H₁.s.led _ hl) lst (by have:=rs.length; rw [sizeLine_eq]; omega) fun h₂ o₂ s₂ g₂ l₂=>⟨(fun b q=>by cases q), ?_⟩)
  obtain ⟨l',H₂⟩:=H₁.turn ok hx lk hl (.list lst (rs.mono le₁ fun zz zz e=>e)) s₂ g₂ (p' := .list (xs ++ [p])) (.list l₂ ((rs.mono le₁ fun zz zz e=>e).append (.cons (r₁.noXR hp) .nil)))
  exact ⟨_,F₁,m,l',le₁,H₂,r⟩
theorem Ex.freeze (ok : FmOk X) {ss : List Stmt} {x : Str} {a : Addr} {p : PV} (hD : a ∉ X.D) (hx : Γ.lookup x = some (.own a p)) (r : Ex X ((x, .fz p) :: Γ) ss Q) : Ex X Γ ss Q := fun F m l h H => by
  obtain ⟨o, lk, hl, oR⟩ := H.own hx
  have ncel : ∀ {c oc u}, (c, oc) ∈ l → IsCel oc u → c ≠ a := fun h1 h2 z => by
    subst z
    rw [H.s.one h1 hl] at h2
    exact isCel_lst h2 oR
  have keep : ∀ {c oc}, (c, oc) ∈ l → c ≠ a → (c, oc) ∈ l.filter (fun q => decide (q.1 ≠ a)) := fun h1 h2 => List.mem_filter.mpr ⟨h1, by simpa using h2⟩
  have lk1 : ∀ {y u}, Look X m l y u → Look X m (l.filter (fun q => decide (q.1 ≠ a))) y u := fun lk => lk.imp id fun ⟨c, oc, k1, k2, k3, k4⟩ => ⟨c, oc, k1, k2, k3.imp (fun q => keep q (ncel q k4)) id, k4⟩
  have new : X.h₀.get? a = none := (H.s.own _ hl).resolve_left hD
  have offL : a ≠ X.env.locals := fun z => H.s.offL (z ▸ List.mem_map_of_mem (f := (·.1)) hl)
  have ho := H.s.led _ hl
  have offF : ∀ o, ¬ F a o := fun o e => (H.fz a o e).2.2 (List.mem_map_of_mem (f := (·.1)) hl)
  have HH : Holds X ((x, .fz p) :: Γ) (F.add a o) m (l.filter (fun q => decide (q.1 ≠ a))) h := by
    refine { s := H.s.drop List.filter_sublist (fun d hd => by
      obtain ⟨q, hq, rfl⟩ := List.mem_map.mp (H.s.dl d hd)
      exact List.mem_map_of_mem (List.mem_filter.mpr ⟨hq, decide_eq_true fun z => hD (z ▸ hd)⟩)), fz := fun b q e => ?_, fn := fun b q e => e.elim (H.fn b q) fun e => by obtain ⟨rfl, rfl⟩ := e; exact .inr new, f0 := fun b q e => .inl (H.f0 b q e), nm := fun y c e => ?_, inj := fun y z q r b e1 e2 a1 a2 => ?_, cel := fun y c e1 e2 => ?_, pl := H.pl.to fun c oc q p => keep q fun z => by subst z; rw [H.s.one q hl] at p; exact orep_np oR p }
    · have sub : ∀ {b}, b ∈ (l.filter (fun q => decide (q.1 ≠ a))).map (·.1) → b ∈ l.map (·.1) ∧ b ≠ a := fun hb => by
        obtain ⟨q, hq, rfl⟩ := List.mem_map.mp hb
        exact ⟨List.mem_map_of_mem (List.mem_filter.mp hq).1, by simpa using (List.mem_filter.mp hq).2⟩
      rcases e with e | ⟨rfl, rfl⟩
      · exact ⟨(H.fz b q e).1, (H.fz b q e).2.1, fun z => (H.fz b q e).2.2 (sub z).1⟩
      · exact ⟨ho, offL, fun z => (sub z).2 rfl⟩
    · by_cases hy : y = x
      · subst hy
        rw [look_here] at e; cases e
        refine ⟨.ref a, lk1 lk, ?_⟩
        cases oR with
        | list h1 h2 => exact .list (.inr ⟨rfl, rfl⟩) h1 (h2.mono (fun zz zz e => .inl e) fun zz zz e => e)
        | dict h1 h2 h3 => exact .dict (.inr ⟨rfl, rfl⟩) h1 h2 (h3.mono (fun zz zz e => .inl e) fun zz zz e => e)
        | obj h1 => have h2 := h1.up (F' := F.add a o) fun zz zz e zz => .inl e; exact .obj (.inr ⟨rfl, rfl⟩) (h2.p _) h2.nv fun F2 q => h2.mono F2 q _
      · rw [look_next hy rfl] at e
        obtain ⟨u, lku, bo⟩ := H.nm y c e
        refine ⟨u, lk1 lku, bo.mono (fun zz zz e => .inl e) fun b ob hb q => keep q fun z => ?_⟩
        subst z
        exact hy (H.inj _ _ _ _ _ e hx hb (.head _))
    · have hy : y ≠ x := fun z => by subst z; rw [look_here] at e1; cases e1; cases a1
      have hz : z ≠ x := fun z => by subst z; rw [look_here] at e2; cases e2; cases a2
      rw [look_next hy rfl] at e1
      rw [look_next hz rfl] at e2
      exact H.inj y z q r b e1 e2 a1 a2
    · obtain ⟨oc, v, h1, h2⟩ := H.cel y c e1 e2
      exact ⟨oc, v, keep h1 (ncel h1 h2), h2⟩
  exact (r _ m _ h HH).mono fun f h₂ z => z.mono (fun zz zz e => .inl e) fun zz q => q
theorem Rep.bothV {prog : Program} {w : World} {F F' R : Store} (hF : ∀ a o,F a o → ¬ NoVal o → F' a o) : (∀ {v x},Rep prog w F R v x → Rep prog w F' R v x) ∧ (∀ {vs xs},Reps prog w F R vs xs → Reps prog w F' R vs xs) :=
 have k := @Rep.rec prog w F R (fun v x zz=>Rep prog w F' R v x) (fun vs xs zz=>Reps prog w F' R vs xs) .none .bool .int .flt .str (fun a b zz c => .list (hF _ _ a fun z=>z.ne b.cls.1 (by decide +kernel)) b c) (fun a b zz c => .rlist a b c) (fun a b zz c => .tup (hF _ _ a fun z=>z.ne (c := "tuple") (by obtain ⟨n,e⟩:=b; rw [e]) (by decide +kernel)) b c) (fun a b c zz d => .dict (hF _ _ a fun z=>z.ne b.cls.1 (by decide +kernel)) b c d) (fun a b c zz d => .rdict a b c d) .raw (fun h1 h2 h3 h4 => .obj (hF _ _ h1 h3) (h4 _ hF) h3 fun F2 h=>h4 F2 fun a o e n=>h a o (hF a o e n) n) (fun a b => .robj a (b.up hF)) .nil (fun zz zz a b => .cons a b)
 have k2 := @Reps.rec prog w F R (fun v x zz=>Rep prog w F' R v x) (fun vs xs zz=>Reps prog w F' R vs xs) .none .bool .int .flt .str (fun a b zz c => .list (hF _ _ a fun z=>z.ne b.cls.1 (by decide +kernel)) b c) (fun a b zz c => .rlist a b c) (fun a b zz c => .tup (hF _ _ a fun z=>z.ne (c := "tuple") (by obtain ⟨n,e⟩:=b; rw [e]) (by decide +kernel)) b c) (fun a b c zz d => .dict (hF _ _ a fun z=>z.ne b.cls.1 (by decide +kernel)) b c d) (fun a b c zz d => .rdict a b c d) .raw (fun h1 h2 h3 h4 => .obj (hF _ _ h1 h3) (h4 _ hF) h3 fun F2 h=>h4 F2 fun a o e n=>h a o (hF a o e n) n) (fun a b => .robj a (b.up hF)) .nil (fun zz zz a b => .cons a b)
 ⟨fun r=>k r,fun r=>k2 r⟩
theorem Rep.monoV {prog : Program} {w : World} {F F' R : Store} (hF : ∀ a o,F a o → ¬ NoVal o → F' a o) {v : Value} {x : PV} (r : Rep prog w F R v x) : Rep prog w F' R v x:=(Rep.bothV hF).1 r
theorem Reps.monoV {prog : Program} {w : World} {F F' R : Store} (hF : ∀ a o,F a o → ¬ NoVal o → F' a o) {vs : List Value} {xs : List PV} (r : Reps prog w F R vs xs) : Reps prog w F' R vs xs:=(Rep.bothV hF).2 r
theorem Holds.step (ok : FmOk X) (H : Holds X Γ F m l h) {I : Addr} {o : Obj} {G : Obj → Prop} (hI : F I o) (n : NoVal o) (new : X.h₀.get? I = none) (s : Sub [I] h h') (ho : ∀ o',G o' → h'.get? I = some o') : Holds X Γ (fun b p=>(b ≠ I ∧ F b p) ∨ (b = I ∧ G p)) m l h':=by
 have gI:=H.fz I o hI
 have up : ∀ b p,F b p → ¬ NoVal p → (b ≠ I ∧ F b p) ∨ (b = I ∧ G p):=fun b p e q => .inl ⟨fun z=>by
  subst z
  have:=(H.fz b p e).1
  rw [gI.1] at this
  cases this; exact q n,e⟩
 refine { s := ?_,fz:=fun b p e => ?_,fn:=fun b p e => ?_,f0:=fun b p e => ?_,nm:=fun y c e => ?_,inj:=H.inj,cel:=H.cel,pl:=H.pl }
 ·refine { base:=fun b q n e=>s _ _ (fun z => ?_) (H.s.base b q n e),ns := ?_,led:=fun p hp=>s _ _ (fun z => ?_) (H.s.led p hp),own:=H.s.own,nodup:=H.s.nodup,offL:=H.s.offL,newL:=H.s.newL,dl:=H.s.dl }
  ·obtain rfl : b = I:=by simpa using z
   rw [new] at e; cases e
  ·obtain ⟨oL,a1,a2,a3,a4⟩:=H.s.ns
   exact ⟨oL,a1,a2,s _ _ (fun z=>gI.2.1 (List.mem_singleton.mp z).symm) a3,a4⟩
  ·obtain rfl : p.1 = I:=by simpa using z
   exact gI.2.2 (List.mem_map_of_mem hp)
 ·rcases e with ⟨nb,e⟩ | ⟨rfl,e⟩
  ·exact ⟨s _ _ (by simpa using nb) (H.fz b p e).1,(H.fz b p e).2⟩
  ·exact ⟨ho p e,gI.2⟩
 ·rcases e with ⟨nb,e⟩ | ⟨rfl,e⟩
  ·exact H.fn b p e
  ·exact .inr new
 ·refine .inl ⟨fun z => ?_,H.f0 b p e⟩
  subst z
  have:=(ok.f0 b p e).1
  rw [new] at this; cases this
 ·obtain ⟨u,lk,bo⟩:=H.nm y c e
  refine ⟨u,lk, ?_⟩
  cases c with
  | fz p=>exact Rep.monoV up bo
  | own a p =>
   obtain ⟨oa,h1,h2,h3⟩:=bo
   refine ⟨oa,h1,h2, ?_⟩
   cases h3 with
   | list q1 q2=>exact .list q1 (q2.monoV up)
   | dict q1 q2 q3=>exact .dict q1 q2 (q3.monoV up)
   | obj q1=>exact .obj (q1.up up)
  | gh p a P =>
   obtain ⟨r,oa,h1,h2,h3⟩:=bo
   exact ⟨r.monoV up,oa,h1,h2,h3⟩
  | nest as xss =>
   obtain ⟨a,oa,h1,h2,h3,h4,h5⟩:=bo
   refine ⟨a,oa,h1,up _ _ h2 fun z=>z.ne h3.cls.1 (by decide +kernel),h3,h4, ?_⟩
   clear h3 h4 e
   induction h5 with
   | nil=>exact .nil
   | cons q1 q2 q3 _ ih=>exact .cons q1 q2 (q3.monoV up) ih
  | mat d C P =>
   obtain ⟨x,od,h1,h2,h3,h4,h5⟩:=bo
   refine ⟨x,od,h1,up _ _ h2 fun z => ?_,h3,h4,fun F2 q=>h5 F2 fun a p e nv=>q a p (up a p e nv) nv⟩
   obtain ⟨⟨d,hd,e'⟩,_⟩:=z
   cases e'
end
end Mine
end
section
namespace Mine
section
variable {X : Fm} {Γ Γ' : Ctx} {F F' : Store} {m : Str → Option Value} {l : List (Addr × Obj)} {h h' : Heap} {Q : Out → Prop} {rest : List Stmt}
noncomputable def Std (F : Store) (h : Heap) : Prop := ∀ b o,F b o → h.get? b = some o
inductive FP (X : Fm) (Γ : Ctx) (F : Store) (m : Str → Option Value) (l : List (Addr × Obj)) (K : Store → Prop) (h₁ : Heap) : Prop
 | mk (F' : Store) : (∀ a o,F a o → F' a o) → Holds X Γ F' m l h₁ → K F' → FP X Γ F m l K h₁
inductive IP (X : Fm) (F' R : Store) (W : Heap → Prop) (target : PySem.Expr) (n : Nat) (P : Nat → PV) (h₁ : Heap) (it : Value) (h₂ : Heap) : Prop
 | mk (I : Addr) (o : Obj) (St : Nat → Obj → Prop) (Pv : Nat → Value → Prop) : it = .ref I → Sub [] h₁ h₂ → h₁.get? I = none → h₂.get? I = some o → St 0 o → (∀ i o,St i o → NoVal o) → (∀ h,W h → Iter X.prog X.w X.A I h n Pv St target) → (∀ i v,i < n → Pv i v → Rep X.prog X.w F' R v (P i)) → IP X F' R W target n P h₁ it h₂
noncomputable def It (X : Fm) (Γ : Ctx) (iter target : PySem.Expr) (n : Nat) (P : Nat → PV) : Prop := ∀ F m l h,Holds X Γ F m l h → TP X.prog X.w X.A (eval iter X.env) h fun xv h₁=>FP X Γ F m l (fun F'=>TP X.prog X.w X.A (pyIter xv) h₁ (IP X F' X.XR (Std F') target n P h₁)) h₁
noncomputable def ItC (X : Fm) (Γ : Ctx) (iter target : PySem.Expr) (n : Nat) (P : Nat → PV) : Prop := ∀ F m l h,Holds X Γ F m l h → TP X.prog X.w X.A (eval iter X.env) h fun xv h₁=>FP X Γ F m l (fun F'=>TP X.prog X.w X.A (pyIter xv) h₁ (IP X F' (RS X l) (fun h=>h = h₁ ∧ Std F' h ∧ Std (RS X l) h) target n P h₁)) h₁
theorem IP.toC {F' : Store} {target : PySem.Expr} {n : Nat} {P : Nat → PV} {h₁ h₂ : Heap} {it : Value} : IP X F' X.XR (Std F') target n P h₁ it h₂ → IP X F' (RS X l) (fun h=>h = h₁ ∧ Std F' h ∧ Std (RS X l) h) target n P h₁ it h₂
 | ⟨I,o,St,Pv,a1,a2,a3,a4,a5,a6,a7,a8⟩=>⟨I,o,St,Pv,a1,a2,a3,a4,a5,a6,fun h q=>a7 h q.2.1,fun i v hi hv=>(a8 i v hi hv).toRS⟩
theorem It.toC {iter target : PySem.Expr} {n : Nat} {P : Nat → PV} (x : It X Γ iter target n P) : ItC X Γ iter target n P:=fun F m l h H=>(x F m l h H).mono fun xv h₁ ⟨F',le,H₁,y⟩=>⟨F',le,H₁,y.mono fun zz zz=>IP.toC⟩
noncomputable def As (X : Fm) (Γ : Ctx) (target : PySem.Expr) (p : PV) (Γ' : Ctx) : Prop := ∀ F m l h v,Holds X Γ F m l h → Rep X.prog X.w F X.XR v p → TP X.prog X.w X.A (assign target X.env v) h fun zz=>AP X Γ' F
inductive ALP (X : Fm) (Γ : Ctx) (F : Store) (l : List (Addr × Obj)) (h' : Heap) : Prop
 | mk (F' : Store) (m' : Str → Option Value) : (∀ a o,F a o → F' a o) → Holds X Γ F' m' l h' → ALP X Γ F l h'
noncomputable def AsL (X : Fm) (Γ : Ctx) (target : PySem.Expr) (p : PV) (Γ' : Ctx) : Prop := ∀ F m l h v,Holds X Γ F m l h → Rep X.prog X.w F X.XR v p → TP X.prog X.w X.A (assign target X.env v) h fun zz=>ALP X Γ' F l
theorem As.name (ok : FmOk X) {x : Str} {px : Pos} {p : PV} (hx : Sto X x) : As X Γ (.Name x px) p ((x,.fz p) :: Γ):=fun F m l h v H r s es hp=>wpAny_assign_Name (H.putF ok hx r s es hp)
theorem AsL.name (ok : FmOk X) {x : Str} {px : Pos} {p : PV} (hx : X.env.kindOf x = some .local) : AsL X Γ (.Name x px) p ((x,.fz p) :: Γ):=fun F m l h v H r s es hp=>wpAny_assign_Name (((H.putL ok hx r).mono fun _ h' ⟨m',H'⟩=>(⟨F,m',fun zz zz e=>e,H'⟩ : ALP X ((x,.fz p) :: Γ) F l h')) s es hp)
noncomputable def LoopQ (X : Fm) (J : Ctx) (rest : List Stmt) (Q : Out → Prop) : Out → Prop
 | .next Γ' => ∀ x b,J.lookup x = some b → Γ'.lookup x = some b
 | .cont Γ' => ∀ x b,J.lookup x = some b → Γ'.lookup x = some b
 | .brk Γ'=>Ex X Γ' rest Q
 | .ret p Γ'=>Q (.ret p Γ')
theorem Ex.forIn (ok : FmOk X) {target iter : PySem.Expr} {body : List Stmt} {pos : Pos} {n : Nat} {P : Nat → PV} (it : It X Γ iter target n P) (J J₁ : Nat → Ctx) (init : ∀ x b,(J 0).lookup x = some b → Γ.lookup x = some b)
  (as : ∀ i,i < n → As X (J i) target (P i) (J₁ i)) (turn : ∀ i,i < n → Ex X (J₁ i) body (LoopQ X (J (i + 1)) rest Q)) (fin : Ex X (J n) rest Q) (hs : ∀ x,foldedSetIterable iter X.env x = Pure.pure x:=by intro _; rfl) : Ex X Γ (.For target iter body [] pos :: rest) Q := .cons fun F m l h H=>by
 refine TP.For ((it F m l h H).mono fun xv h₁ ⟨F',le,H₁,y⟩=>y.mono ?_) hs
 rintro itv h₂ ⟨I,o,St,Pv,rfl,s₂,nI,gI,st,nv,itr,rp⟩
 have fr:=H₁.fresh nI
 have H₂:=(H₁.freeze s₂ nI gI).weak init
 refine TFP.forLoop (fun k h => ∃ i F1 m1 l1 o,k + i = n ∧ (∀ a o,F' a o → F1 a o) ∧ Holds X (J i) F1 m1 l1 h ∧ F1 I o ∧ St i o) ?_ n ⟨0,_,m,l,o,rfl,fun zz zz e => .inl e,H₂,.inr ⟨rfl,rfl⟩,st⟩
 rintro k h ⟨i,F1,m1,l1,o,hk,le1,HH,hI,hst⟩
 have gI:=(HH.fz I o hI).1
 have stand : Std F' h:=fun b p e=>(HH.fz b p (le1 b p e)).1
 by_cases hlt : i < n
 ·refine (TP.of ((itr h stand).item i h o hlt Sub.refl gI hst)).mono ?_
  rintro r h₃ ⟨v,o',rfl,hP,s₃,g₃,hst'⟩
  have H₃:=HH.step ok hI (nv _ _ hst) fr.new s₃ (G:=fun p=>p = o') fun o' e=>e ▸ g₃
  refine (TP.of ((itr h stand).go i v h₃ o' hP g₃ hst')).mono ?_
  rintro _ h₄ rfl
  have le2 : ∀ b p,F' b p → (b ≠ I ∧ F1 b p) ∨ (b = I ∧ p = o'):=fun b p e => .inl ⟨fun z=>by subst z; exact fr.offF p e,le1 b p e⟩
  refine (as i hlt _ m1 l1 h₄ v H₃ ((rp i v hlt hP).mono le2 fun zz zz e=>e)).mono ?_
  rintro _ h₅ ⟨m5,l5,H₅⟩
  refine (turn i hlt _ m5 l5 h₅ H₅).mono ?_
  intro f h₆ z
  cases f with
  | next =>
   obtain ⟨Γ',F6,m6,l6,le6,H₆,q⟩:=z
   exact ⟨k - 1,by omega,i + 1,F6,m6,l6,o',by omega,fun b p e=>le6 b p (le2 b p e),H₆.weak q,le6 _ _ (.inr ⟨rfl,rfl⟩),hst'⟩
  | cont =>
   obtain ⟨Γ',F6,m6,l6,le6,H₆,q⟩:=z
   exact ⟨k - 1,by omega,i + 1,F6,m6,l6,o',by omega,fun b p e=>le6 b p (le2 b p e),H₆.weak q,le6 _ _ (.inr ⟨rfl,rfl⟩),hst'⟩
  | brk =>
   obtain ⟨Γ',F6,m6,l6,le6,H₆,q⟩:=z
   exact ⟨Γ',F6,m6,l6,fun b p e=>le6 b p (le2 b p (le b p e)),H₆,q⟩
  | ret v =>
   obtain ⟨p,Γ',F6,m6,l6,le6,H₆,r,q⟩:=z
   exact ⟨p,Γ',F6,m6,l6,fun b p e=>le6 b p (le2 b p (le b p e)),H₆,r,q⟩
 ·obtain rfl : i = n:=by omega
  refine (TP.of ((itr h stand).done h o Sub.refl gI hst)).mono ?_
  rintro r h₃ ⟨rfl,s₃⟩
  have H₃:=HH.step ok hI (nv _ _ hst) fr.new s₃ (G:=fun zz=>False) fun o' e=>e.elim
  exact ⟨_,_,m1,l1,fun b p e => .inl ⟨fun z=>by subst z; exact fr.offF p (le b p e),le1 b p (le b p e)⟩,H₃,fin⟩
theorem noval_lit {ax : Addr} {i : Nat} {o : Obj} (x : litS ax i o) : NoVal o:=⟨⟨_,by decide +kernel,x.1⟩,fun v hv=>by rw [x.2] at hv; (cases hv),fun vs s t hv z=>by rw [x.2] at hv; cases hv; cases z⟩
theorem noval_rit {a b : Int} {i : Nat} {o : Obj} (x : o = ritO a b i) : NoVal o:=by
 subst x
 exact ⟨⟨"range_iterator",by decide +kernel,rfl⟩,fun v hv=>by unfold ritO at hv; (cases hv),fun vs s t hv z=>by unfold ritO at hv; cases hv; cases z⟩
theorem It.listN (ok : FmOk X) {iter : PySem.Expr} {x : Str} {px : Pos} {xs : List PV} {P : Nat → PV} (ee : E X Γ iter (.list xs)) (hs : Safes xs) (hP : ∀ i,i < xs.length → xs[i]? = some (P i)) : It X Γ iter (.Name x px) xs.length P:=fun F m l h H=>E.go ee H fun F' v h₁ le H₁ r=>by
 ·obtain ⟨a,o,vs,rfl,hF,lst,rs⟩:=r.l
  have hl:=lst.isList (H₁.fz _ _ hF).1
  have len:=rs.length
  refine ⟨F',le,H₁,TP.of fun s es => ?_⟩
  subst es
  refine wpAny_pyIter_list hl ⟨_,s.toks,s.heap.objs.size,_,litS a,(fun i v=>vs[i]? = some v),rfl,Sub.push _ _,get_size_none _,get_push_self _ _,⟨rfl,rfl⟩,fun i o h=>noval_lit h,fun h st => ?_,fun i v hi hv => ?_⟩
  ·rw [← len]
   exact Iter.list ok.hh (lst.isList (st _ _ hF)) fun zz zz zz zz zz zz zz=>T.eq rfl (T.pure rfl)
  ·obtain ⟨v',e,r⟩:=rs.get (hP i hi)
   rw [hv] at e; cases e
   exact r.safe (hs.of _ (List.mem_of_getElem? (hP i hi)))
inductive EA (X : Fm) (Γ : Ctx) : List PySem.Expr → List PV → Prop
 | nil : EA X Γ [] []
 | cons {e : PySem.Expr} {p : PV} {es : List PySem.Expr} {ps : List PV} : E X Γ e p → EA X Γ es ps → EA X Γ (e :: es) (p :: ps)
theorem EA.t {es : List PySem.Expr} {ps : List PV} (x : EA X Γ es ps) : ∀ {F m l h},Holds X Γ F m l h → TPArgs X.prog X.w X.A X.env es h fun vs h'=>FP X Γ F m l (fun F'=>Reps X.prog X.w F' (RS X l) vs ps) h':=by
 induction x with
 | nil=>exact fun {F m l h} H=>⟨F,fun zz zz e=>e,H,.nil⟩
 | cons e1 _ ih =>
  intro F m l h H
  refine E.go e1 H fun F₁ v h₁ le₁ H₁ r₁=>(ih H₁).mono fun vs h₂ ⟨F₂,le₂,H₂,r₂⟩=>⟨F₂,fun a o e=>le₂ a o (le₁ a o e),H₂,.cons (r₁.mono le₂ fun zz zz e=>e) r₂⟩
theorem call_T {f : Str} {pf pos : Pos} {fv : Value} {es : List PySem.Expr} {ps : List PV} {Q : Value → Heap → Prop} (ef : E X Γ (.Name f pf) (.raw fv)) (ea : EA X Γ es ps) (H : Holds X Γ F m l h)
  (k : ∀ F' h' vs,(∀ a o,F a o → F' a o) → Holds X Γ F' m l h' → Reps X.prog X.w F' (RS X l) vs ps → Keeps X.prog X.w fv h' ∧ TP X.prog X.w X.A (PySem.call fv vs) h' Q) (hst : noStars es = true) :
  TP X.prog X.w X.A (eval (.Call (.Name f pf) es [] pos) X.env) h Q:=TP.Call_Name (E.go ef H fun F₁ v h₁ le₁ H₁ r₁=>by
   obtain rfl:=r₁.r
   exact TP.callWith ((ea.t H₁).mono fun vs h₂ ⟨F₂,le₂,H₂,r₂⟩=>k F₂ h₂ vs (fun a o e=>le₂ a o (le₁ a o e)) H₂ r₂) hst)
theorem range1_k (ok : FmOk X) {x : Str} {px : Pos} {n : Nat} {F₁ : Store} {vs : List Value} (hn : n ≤ 1000000) (H₁ : Holds X Γ F₁ m l h₁) (rs : Reps X.prog X.w F₁ (RS X l) vs [.int n]) (le₁ : ∀ a o,F a o → F₁ a o) : TP X.prog X.w X.A (PySem.call (.type "range") vs) h₁ fun xv h₁=>FP X Γ F m l (fun F'=>TP X.prog X.w X.A (pyIter xv) h₁ (IP X F' X.XR (Std F') (.Name x px) n (fun i => .int i) h₁)) h₁:=by
 obtain ⟨_,rfl,r1⟩:=rs.one
 obtain ⟨t,rfl⟩:=r1.i
 refine TP.of fun s es => ?_
 subst es
 refine call_range_1 ⟨_,_,F₁,le₁,H₁.sub (Sub.push _ _),TP.of fun s₁ es₁ => ?_⟩
 have hR:=IsRange.new s.heap 0 n 1 s.toks t (s.toks + 1)
 rw [← es₁] at hR
 have hsz : Builtin.Range.rangeSize 0 n 1 = (n : Int) - 0:=by rw [rangeSize_one]; split <;> omega
 refine wpAny_pyIter_range hR (small_one (by omega) (by omega) (by omega) (by omega)) ⟨_,s₁.toks,s₁.heap.objs.size,ritO 0 n 0,(fun i o=>o = ritO 0 n i),(fun i v => ∃ t,v = .int (0 + (i : Int)) t),rfl, ?_, ?_, ?_,rfl,fun i o h=>noval_rit h,fun h zz => ?_,fun i v hi hv => ?_⟩
 ·rw [← es₁]; exact Sub.push _ _
 ·rw [← es₁]; exact get_size_none _
 ·have:=get_push_self s₁.heap { cls := .type "range_iterator",data := .fields #[rawInt 0,rawInt (Builtin.Range.rangeSize 0 n 1),rawInt 1] }
  rw [this,hsz,ritO]
  simp
 ·have:=Iter.range (prog:=X.prog) (w:=X.w) (A:=X.A) (I:=s₁.heap.objs.size) (hb:=h) (a:=0) (b:=n) (x:=x) (px:=px) ok.hh (by omega)
  rwa [show ((n : Int) - 0).toNat = n by omega] at this
 ·obtain ⟨t,rfl⟩:=hv
  rw [show (0 : Int) + (i : Int) = i by omega]
  exact .int _ _
theorem It.range1 (ok : FmOk X) {x f : Str} {px pf pos : Pos} {e : PySem.Expr} {n : Nat} (ef : E X Γ (.Name f pf) (.raw (.type "range"))) (ee : E X Γ e (.int n)) (hn : n ≤ 1000000) (hst : noStars [e] = true) : It X Γ (.Call (.Name f pf) [e] [] pos) (.Name x px) n (fun i => .int i):=fun F m l h H =>
 call_T ef (.cons ee .nil) H (fun F₁ h₁ vs le₁ H₁ rs=>⟨Keeps.type,range1_k ok hn H₁ rs le₁⟩) hst
end
end Mine
end
section
namespace Mine
noncomputable def scEnv (s : Scope) : Env:={ scope:=s,locals:=0,globals:=mainGlobals,cells:=[] }
structure Sc (X : Fm) (s : Scope) (cn : List Str) : Prop where
 s : X.env.scope = s
 c : X.env.cells.map (·.1) = cn
theorem Sc.kind {X : Fm} {s : Scope} {cn : List Str} (sc : Sc X s cn) (x : Str) : X.env.kindOf x = s.names.lookup x:=by unfold Env.kindOf; rw [sc.s]
noncomputable def closL (cells : List (Str × Addr)) (names : List (Str × NameKind)) (acc : List (Str × Addr)) : List (Str × Addr) :=
 names.foldl (fun cs y=>if y.2 == .free then (y.1,(cells.lookup y.1).getD 0) :: cs else cs) acc
noncomputable def closN (names : List (Str × NameKind)) : List Str:=names.foldl (fun cs y=>if y.2 == .free then y.1 :: cs else cs) []
theorem closL_map {cells : List (Str × Addr)} : ∀ (names : List (Str × NameKind)) (acc : List (Str × Addr)),(closL cells names acc).map (·.1) = names.foldl (fun cs y=>if y.2 == .free then y.1 :: cs else cs) (acc.map (·.1))
 | [],_=>rfl
 | y :: r,acc=>by
  have:=closL_map (cells:=cells) r (if y.2 == .free then (y.1,(cells.lookup y.1).getD 0) :: acc else acc)
  unfold closL at this ⊢
  rw [List.foldl_cons,List.foldl_cons,this]
  split <;> rfl
theorem closL_look {cells : List (Str × Addr)} {x : Str} {c : Addr} : ∀ (names : List (Str × NameKind)) (acc : List (Str × Addr)),(∀ y ∈ names,y.2 = .free → (cells.lookup y.1).isSome = true) → (acc.lookup x = some c → cells.lookup x = some c) → (closL cells names acc).lookup x = some c → cells.lookup x = some c
 | [],_,_,ha,e=>ha e
 | y :: r,acc,hn,ha,e=>by
  unfold closL at e
  rw [List.foldl_cons] at e
  refine closL_look r _ (fun z hz=>hn z (.tail _ hz)) ?_ e
  by_cases hy : y.2 = .free
  ·have hb : (y.2 == NameKind.free) = true:=by rw [hy]; rfl
   rw [if_pos hb]
   intro q
   by_cases hx : x = y.1
   ·subst hx
    simp at q
    have:=hn y (.head _) hy
    obtain ⟨d,hd⟩:=Option.isSome_iff_exists.mp this
    rw [hd] at q ⊢; simp at q; rw [q]
   ·rw [List.lookup_cons] at q
    have : (x == y.1) = false:=by simpa using hx
    rw [this] at q
    exact ha q
  ·have hb : (y.2 == NameKind.free) = false:=by cases h : y.2 <;> simp_all
   rw [hb]; exact ha
theorem closL_has {cells : List (Str × Addr)} {x : Str} : ∀ (names : List (Str × NameKind)) (acc : List (Str × Addr)),((acc.lookup x).isSome = true ∨ (x,NameKind.free) ∈ names) → ((closL cells names acc).lookup x).isSome = true
 | [],_,h=>h.elim id (by walk_at "ms")
 | y :: r,acc,h=>by
  unfold closL
  rw [List.foldl_cons]
  refine closL_has r _ ?_
  rcases h with h | h
  ·left
   split
   ·rw [List.lookup_cons]; split <;> simp [h]
   ·exact h
  ·rcases List.mem_cons.mp h with h | h
   ·left; subst h; simp
   ·exact .inr h
theorem closure_eq {scope : Scope} {env : Env} (hn : ∀ y ∈ scope.names,y.2 = .free → (env.cells.lookup y.1).isSome = true) : closureFor scope env = pure (closL env.cells scope.names []):=by
 unfold closureFor closL
 have : ∀ (names : List (Str × NameKind)) (acc : List (Str × Addr)),(∀ y ∈ names,y.2 = .free → (env.cells.lookup y.1).isSome = true) →
   (forIn names acc fun (x : Str × NameKind) (cs : List (Str × Addr))=>(if (x.2 == NameKind.free) = true then do let c ← cellOf env x.1; pure (ForInStep.yield ((x.1,c) :: cs)) else pure (ForInStep.yield cs) : Sem _)) = pure (names.foldl (fun cs y=>if y.2 == .free then (y.1,(env.cells.lookup y.1).getD 0) :: cs else cs) acc):=by
  intro names
  induction names with
  | nil=>intro acc _; rfl
  | cons y r ih =>
   intro acc hn
   rw [List.forIn_cons,List.foldl_cons]
   by_cases hy : (y.2 == NameKind.free) = true
   ·rw [if_pos hy,if_pos hy]
    have h2 : y.2 = .free:=by cases q : y.2 <;> simp_all
    obtain ⟨c,hc⟩:=Option.isSome_iff_exists.mp (hn y (.head _) h2)
    have e : cellOf env y.1 = pure c:=by unfold cellOf; rw [hc]
    rw [e,hc]
    exact ih _ fun z hz=>hn z (.tail _ hz)
   ·rw [if_neg hy,if_neg hy]
    exact ih _ fun z hz=>hn z (.tail _ hz)
 have t:=this scope.names [] hn
 first
  | exact t
  | (rw [← t]; rfl)
  | (simp only [t]; rfl)
theorem lookup_some_of_mem {cells : List (Str × Addr)} {x : Str} (h : x ∈ cells.map (·.1)) : (cells.lookup x).isSome = true:=by
 induction cells with
 | nil=>simp at h
 | cons y r ih =>
  rw [List.lookup_cons]
  by_cases e : x = y.1
  ·subst e; simp
  ·have : (x == y.1) = false:=by simpa using e
   rw [this]
   exact ih (by simpa [e] using h)
noncomputable def compOk (s : Scope) (cn : List Str) (scope : Scope) : Bool :=
 (scope.names.all fun y=>y.2 != .cell) && (scope.names.all fun y=>y.2 != .local || decide (scope.names.lookup y.1 = some .local)) && (scope.names.all fun y=>y.2 != .free || cn.contains y.1)
noncomputable def cellIn (s : Scope) (scope : Scope) (x : Str) : Bool:=decide (s.names.lookup x = some .cell) && decide ((relabel scope (scEnv s)).names.lookup x = some .cell) && decide ((x,NameKind.free) ∈ scope.names)
noncomputable def inC : Bind → Bind
 | .fz p => .fz p
 | .own _ p => .fz (rd p)
 | .mat _ _ _ => .fz (.raw .none)
 | .nest _ _ => .fz (.raw .none)
 | .gh _ _ _ => .fz (.raw .none)
noncomputable def noMat : Bind → Bool
 | .mat _ _ _=>false
 | .nest _ _=>false
 | .gh _ _ _=>false
 | _=>true
noncomputable def CompCtx (s scope : Scope) (Γ Γc : Ctx) : Prop := ∀ x b,Γc.lookup x = some b → ∃ b',Γ.lookup x = some b' ∧ b = inC b' ∧ cellIn s scope x = true ∧ noMat b' = true
theorem cctx_nil {s scope : Scope} {Γ : Ctx} : CompCtx s scope Γ []:=fun x b e=>by simp at e
theorem cctx_cons {s scope : Scope} {Γ Γc : Ctx} {x : Str} {b : Bind} (h1 : Γ.lookup x = some b) (h2 : cellIn s scope x = true) (hm : noMat b = true) (r : CompCtx s scope Γ Γc) : CompCtx s scope Γ ((x,inC b) :: Γc):=fun y c e=>by
 rw [List.lookup_cons] at e
 by_cases z : y = x
 ·subst z; simp at e; subst e; exact ⟨b,h1,rfl,h2,hm⟩
 ·have : (y == x) = false:=by simpa using z
  rw [this] at e; exact r y c e
structure SameTop (X X' : Fm) : Prop where
 prog : X'.prog = X.prog
 w : X'.w = X.w
 A : X'.A = X.A
 K : X'.K = X.K
 rd : X'.rd = X.rd
section
variable {X : Fm} {Γ Γ' Γc : Ctx} {F F' : Store} {m : Str → Option Value} {l : List (Addr × Obj)} {h h' : Heap} {Q : Out → Prop} {rest : List Stmt} {s : Scope} {cn : List Str}
noncomputable def TB (X : Fm) (Γ : Ctx) (ifs : List PySem.Expr) (b : Bool) : Prop := ∀ F m l h,Holds X Γ F m l h → TP X.prog X.w X.A (compTests X.env ifs) h (BP X Γ F m l b)
theorem TB.nil : TB X Γ [] true:=fun F m l h H=>p_tests0 (.here H)
theorem TB.one {c : PySem.Expr} {b : Bool} (t : B X Γ c b) : TB X Γ [c] b:=fun F m l h H=>p_tests1 (t F m l h H)
theorem Holds.ledU (H : Holds X Γ F m l h) (hno : ∀ x b,Γ.lookup x = some b → b.addrs = []) {i : Nat} {a : Addr} {o o' : Obj} (hi : l[i]? = some (a,o)) (n : ∀ v,¬ IsCel o v) (n' : ∀ v,¬ IsCel o' v) (hp : X.pl = []) (sb : Sub [a] h h') (ho : h'.get? a = some o') : Holds X Γ F m (l.set i (a,o')) h':=by
 have hl : (a,o) ∈ l:=List.mem_of_getElem? hi
 have ncel : ∀ {c oc u},(c,oc) ∈ l → IsCel oc u → c ≠ a:=fun h1 h2 z=>by
  subst z
  rw [H.s.one h1 hl] at h2
  exact n _ h2
 refine { s:=H.s.upd i hi sb ho,fz:=fun b q e=>⟨sb _ _ ?_ (H.fz b q e).1,(H.fz b q e).2.1,(map_set hi) ▸ (H.fz b q e).2.2⟩,fn:=H.fn,f0:=H.f0,nm:=fun y c e => ?_,inj:=fun y z q r b e1 zz a1 zz=>absurd a1 (by rw [hno _ _ e1]; exact fun q=>nomatch q),cel:=fun y c e1 e2 => ?_,pl:=fun q hq=>by rw [hp] at hq; cases hq }
 ·have:=(H.fz b q e).2.2
  intro z
  obtain rfl : b = a:=by simpa using z
  exact this (List.mem_map_of_mem (f:=(·.1)) hl)
 ·obtain ⟨u,lk,bo⟩:=H.nm y c e
  exact ⟨u,lk.imp id fun ⟨c,oc,k1,k2,k3,k4⟩=>⟨c,oc,k1,k2,k3.imp (fun q=>mem_set hi q (ncel q k4)) id,k4⟩,bo.mono (fun zz zz e=>e) fun a o ha=>by
   rw [hno _ _ e] at ha; cases ha⟩
 ·obtain ⟨oc,v,h1,h2⟩:=H.cel y c e1 e2
  exact ⟨oc,v,mem_set hi h1 (ncel h1 h2),h2⟩
theorem Holds.grow (H : Holds X Γ F m l h) (le : ∀ a o,F a o → F' a o) (h1 : ∀ a o,F' a o → h.get? a = some o ∧ a ≠ X.env.locals ∧ a ∉ l.map (·.1)) (h2 : ∀ a o,F' a o → X.F₀ a o ∨ X.h₀.get? a = none) : Holds X Γ F' m l h where
 s:=H.s
 fz:=h1
 fn:=h2
 f0:=fun a o e=>le a o (H.f0 a o e)
 nm:=fun x b e=>by
  obtain ⟨v,lk,bo⟩:=H.nm x b e
  exact ⟨v,lk,bo.mono le fun zz zz zz e=>e⟩
 inj:=H.inj
 cel:=H.cel
 pl:=H.pl
noncomputable abbrev celO (v : Option Value) : Obj:={ cls := .type "cell",data := .cell v }
structure OwnC (xc : List (Str × Addr)) (ex : List (Addr × Obj)) (h₁ : Heap) (names : List (Str × NameKind)) : Prop where
 new : ∀ y c,xc.lookup y = some c → h₁.get? c = none ∧ (c,celO none) ∈ ex
 inj : ∀ y z c,xc.lookup y = some c → xc.lookup z = some c → y = z
 nf : ∀ y c,xc.lookup y = some c → (y,NameKind.free) ∉ names
theorem OwnC.nil {h₁ : Heap} {names : List (Str × NameKind)} : OwnC [] [] h₁ names:=⟨fun zz zz e=>(nomatch e),fun zz zz zz e=>(nomatch e),fun zz zz e=>(nomatch e)⟩
theorem cells_old (ok : FmOk X) (H₁ : Holds X Γ F m l h) {z : Str} {c : Addr} (e3 : X.env.cells.lookup z = some c) : ∃ o,h.get? c = some o:=by
 by_cases hx : X.h₀.get? c = none
 ·obtain ⟨oc,v,a1,a2⟩:=H₁.cel z c e3 hx
  exact ⟨_,H₁.s.led _ a1⟩
 ·cases q : X.h₀.get? c with
  | none=>exact absurd q hx
  | some oc =>
   by_cases hD : c ∈ X.D
   ·obtain ⟨p,hp,rfl⟩:=List.mem_map.mp (H₁.s.dl c hD)
    exact ⟨_,H₁.s.led _ hp⟩
   ·exact ⟨_,H₁.s.base c oc hD q⟩
inductive ACP (X : Fm) (Γ : Ctx) (F : Store) (l : List (Addr × Obj)) (h' : Heap) : Prop
 | mk (F' : Store) (m' : Str → Option Value) (l' : List (Addr × Obj)) : (∀ a o,F a o → F' a o) → Holds X Γ F' m' l' h' → l'.map (·.1) = l.map (·.1) → (∀ c o,(c,o) ∈ l → (∃ u,IsCel o u) ∨ (c,o) ∈ l') → ACP X Γ F l h'
noncomputable def AsC (X : Fm) (Γ : Ctx) (target : PySem.Expr) (p : PV) (Γ' : Ctx) : Prop := ∀ F m l h v,Holds X Γ F m l h → Rep X.prog X.w F X.XR v p → TP X.prog X.w X.A (assign target X.env v) h fun zz=>ACP X Γ' F l
theorem AsL.c {target : PySem.Expr} {p : PV} (x : AsL X Γ target p Γ') : AsC X Γ target p Γ':=fun F m l h v H r=>(x F m l h v H r).mono fun _ _ ⟨F',m',a,b⟩=>⟨F',m',l,a,b,rfl,fun zz zz q => .inr q⟩
inductive CBody (X : Fm) (Γc : Ctx) (target : PySem.Expr) (p : PV) (ifs : List PySem.Expr) (b : Bool) (elt : PySem.Expr) (g : PV) : Prop
 | mk (Γ1 : Ctx) : (∀ x b,Γ1.lookup x = some b → b.addrs = []) → (∀ x b,Γc.lookup x = some b → Γ1.lookup x = some b) → AsC X Γc target p Γ1 → TB X Γ1 ifs b → (b = true → E X Γ1 elt g) → CBody X Γc target p ifs b elt g
noncomputable abbrev cFm (X : Fm) (env' : Env) (h₁ : Heap) (F₁ : Store) (l : List (Addr × Obj)) : Fm:=⟨X.prog,X.w,X.A,env',h₁,[],F₁,RS X l,X.K,X.rd,[]⟩
theorem lookup_or {α : Type} {xs ys : List (Str × α)} {z : Str} {c : α} (e : (xs ++ ys).lookup z = some c) : xs.lookup z = some c ∨ (xs.lookup z = none ∧ ys.lookup z = some c):=by
 rw [List.lookup_append] at e
 cases q : xs.lookup z with
 | none=>rw [q] at e; exact .inr ⟨rfl,e⟩
 | some d=>rw [q] at e; exact .inl e
section
variable {env' : Env} {h₁ : Heap} {F₁ : Store} {scope : Scope} {xc : List (Str × Addr)} {ex : List (Addr × Obj)}
theorem cFm_ok (ok : FmOk X) (H₁ : Holds X Γ F₁ m l h₁) (hfree : ∀ y ∈ scope.names,y.2 = .free → (X.env.cells.lookup y.1).isSome = true) (e' : EnvOk env') (hcl : env'.cells = xc ++ closL X.env.cells scope.names []) (oc : OwnC xc ex h₁ scope.names) : FmOk (cFm X env' h₁ F₁ l) where
 e:=e'
 hh:=ok.hh
 gr:=fun h q=>ok.gr h fun b o nb eb=>q b o (fun z=>by cases z) (H₁.s.base b o nb eb)
 f0:=fun a o e=>⟨(H₁.fz a o e).1,fun z=>by cases z⟩
 xr:=fun a o e=>⟨H₁.rs ok e,fun z=>by cases z⟩
 cinj:=fun x y c e1 e2=>by
  have old : ∀ {z y},xc.lookup z = some c → (closL X.env.cells scope.names []).lookup y = some c → False:=fun {z y} e1 e2=>by
   obtain ⟨o,g⟩:=cells_old ok H₁ (closL_look _ _ hfree (by walk_at "ms") e2)
   rw [(oc.new _ _ e1).1] at g; cases g
  rcases lookup_or (hcl ▸ e1) with e1 | ⟨_,e1⟩
  ·rcases lookup_or (hcl ▸ e2) with e2 | ⟨_,e2⟩
   ·exact oc.inj _ _ _ e1 e2
   ·exact (old e1 e2).elim
  ·rcases lookup_or (hcl ▸ e2) with e2 | ⟨_,e2⟩
   ·exact (old e2 e1).elim
   ·exact ok.cinj x y c (closL_look _ _ hfree (by walk_at "ms") e1) (closL_look _ _ hfree (by walk_at "ms") e2)
 room:=ok.room
 units:=ok.units
theorem BindOk.inC {v : Value} {b : Bind} (bo : BindOk X F l v b) (hm : noMat b = true) : BindOk (cFm X env' h₁ F l) F l' v (Mine.inC b):=by
 cases b with
 | fz p=>exact Rep.toRS bo
 | mat d C P=>cases hm
 | nest as xss=>cases hm
 | gh p a P=>cases hm
 | own a p =>
  obtain ⟨o,rfl,h2,h3⟩:=bo
  cases h3 with
  | list h1 h2'=>exact .rlist (.inr h2) h1 (h2'.mono (fun zz zz e=>e) fun zz zz e => .inl e)
  | dict h1 h2' h3=>exact .rdict (.inr h2) h1 h2' (h3.mono (fun zz zz e=>e) fun zz zz e => .inl e)
  | obj h1=>exact .robj (.inr h2) h1
theorem inC_addrs (b : Bind) : (Mine.inC b).addrs = []:=by cases b <;> rfl
theorem cFm_holds (ok : FmOk X) (sc : Sc X s cn) (H₁ : Holds X Γ F₁ m l h₁) (hfree : ∀ y ∈ scope.names,y.2 = .free → (X.env.cells.lookup y.1).isSome = true) (hcc : CompCtx s scope Γ Γc) (hsc : env'.scope = relabel scope X.env) (hcl : env'.cells = xc ++ closL X.env.cells scope.names []) (oc : OwnC xc ex h₁ scope.names) {m' : Str → Option Value} {l' : List (Addr × Obj)} (HS : S h₁ [] env'.locals m' l' h)
  (off : ∀ p ∈ l',∀ a o,F₁ a o → p.1 ≠ a) (hex : ∀ p ∈ ex,p ∈ l') : Holds (cFm X env' h₁ F₁ l) Γc F₁ m' l' h where
 s:=HS
 fz:=fun a o e=>by
  have e1:=(H₁.fz a o e).1
  refine ⟨HS.base a o (by walk_at "ms") e1,fun z => ?_,fun z => ?_⟩
  ·have : h₁.get? env'.locals = none:=HS.newL
   rw [← z,e1] at this; cases this
  ·obtain ⟨p,hp,q⟩:=List.mem_map.mp z
   exact off p hp a o e q
 fn:=fun a o e => .inl e
 f0:=fun a o e=>e
 nm:=fun z c e=>by
  obtain ⟨c',e1,rfl,e3,e4⟩:=hcc z c e
  obtain ⟨v,lk,bo⟩:=H₁.nm z c' e1
  simp only [cellIn,Bool.and_eq_true,decide_eq_true_eq] at e3
  obtain ⟨⟨q1,q2⟩,q3⟩:=e3
  rcases lk with ⟨k,_⟩ | ⟨d,od,k,hc,ho,hv⟩
  ·rw [sc.kind,q1] at k; cases k
  ·refine ⟨v,.inr ⟨d,od, ?_, ?_,.inr (ho.elim .inr .inl),hv⟩,bo.inC e4⟩
   ·show env'.kindOf z = _
    unfold Env.kindOf
    rw [hsc,relabel_of (show X.env.scope = (scEnv s).scope from sc.s)]; exact q2
   ·show env'.cells.lookup z = _
    have nx : xc.lookup z = none:=by
     cases q : xc.lookup z with
     | none=>rfl
     | some c=>exact (oc.nf _ _ q q3).elim
    rw [hcl,List.lookup_append,nx]
    obtain ⟨d',hd⟩:=Option.isSome_iff_exists.mp (closL_has (cells:=X.env.cells) (x:=z) scope.names [] (.inr q3))
    rw [hd]
    have:=closL_look _ _ hfree (by walk_at "ms") hd
    rw [hc] at this; exact this.symm
 inj:=fun z y p q a e1 zz a1=>by
  obtain ⟨c',_,rfl,_⟩:=hcc z _ e1
  rw [inC_addrs] at a1; cases a1
 pl:=fun q hq=>by cases hq
 cel:=fun z c e1 e2=>by
  rcases lookup_or (hcl ▸ e1) with e1 | ⟨_,e1⟩
  ·exact ⟨_,_,hex _ (oc.new _ _ e1).2,rfl⟩
  ·obtain ⟨o,g⟩:=cells_old ok H₁ (closL_look _ _ hfree (by walk_at "ms") e1)
   have e2 : h₁.get? c = none:=e2
   rw [g] at e2; cases e2
inductive CI (X X' : Fm) (Γc : Ctx) (F₁ R : Store) (St : Nat → Obj → Prop) (b : Nat → Bool) (g : Nat → PV) (n : Nat) (acc I : Addr) (ex : List (Addr × Obj)) (k : Nat) (h : Heap) : Prop
 | mk (i : Nat) (F1 : Store) (m1 : Str → Option Value) (oa : Obj) (vs : List Value) (o : Obj) (ex1 : List (Addr × Obj)) : k + i = n → (∀ a o,F₁ a o → F1 a o) → Holds X' Γc F1 m1 ((acc,oa) :: (I,o) :: ex1) h → ex1.map (·.1) = ex.map (·.1) → IsLst oa vs → Reps X.prog X.w F1 R vs (((List.range i).filter b).map g) → St i o → CI X X' Γc F₁ R St b g n acc I ex k h
inductive CE (X : Fm) (Γ : Ctx) (F₁ : Store) (m : Str → Option Value) (l : List (Addr × Obj)) (h₁ : Heap) (acc L : Addr) (p : PV) (h' : Heap) : Prop
 | mk (m₁ : Str → Option Value) (F' : Store) (o : Obj) : h'.Ns L m₁ → h₁.get? L = none → (∀ a o,F₁ a o → F' a o) → Holds X Γ F' m l h' → h'.get? acc = some o → Fresh X F' l acc → ORep X.prog X.w F' (RS X l) o p → acc ≠ L → (∀ a o,F' a o → a ≠ L) → CE X Γ F₁ m l h₁ acc L p h'
theorem isLst_ncel {o : Obj} {vs : List Value} (hl : IsLst o vs) : ∀ v,¬ IsCel o v:=fun v hv=>by
 obtain ⟨n,rfl⟩:=hl; cases hv
theorem range_step {b : Nat → Bool} {g : Nat → PV} {i : Nat} : ((List.range (i + 1)).filter b).map g = ((List.range i).filter b).map g ++ (if b i = true then [g i] else []):=by
 rw [List.range_succ,List.filter_append,List.map_append]
 congr 1
 by_cases hb : b i = true <;> simp [hb]
theorem led_two {l' : List (Addr × Obj)} {a c : Addr} {oa oc : Obj} {ex : List (Addr × Obj)} {L : Addr} {D : List Addr} {m' : Str → Option Value} (HS : S h₁ D L m' l' h) (hm : l'.map (·.1) = a :: c :: ex.map (·.1)) (ha : (a,oa) ∈ l') (hc : (c,oc) ∈ l') : ∃ ex',l' = (a,oa) :: (c,oc) :: ex' ∧ ex'.map (·.1) = ex.map (·.1):=by
 match l',hm,HS,ha,hc with
 | [],hm,_,_,_=>cases hm
 | [_],hm,_,_,_=>cases hm
 | (a',o1) :: (c',o2) :: ex',hm,HS,ha,hc =>
  obtain ⟨rfl,h2⟩:=List.cons.inj hm
  obtain ⟨rfl,h3⟩:=List.cons.inj h2
  rw [HS.one ha (.head _),HS.one hc (.tail _ (.head _))]
  exact ⟨ex',rfl,h3⟩
variable {elt target : PySem.Expr} {ifs : List PySem.Expr} {n : Nat} {P : Nat → PV} {b : Nat → Bool} {g : Nat → PV} {acc I : Addr} {St : Nat → Obj → Prop} {Pv : Nat → Value → Prop}
theorem comp_turn (ok : FmOk X) (hnoc : ∀ x c,Γc.lookup x = some c → c.addrs = []) (body : ∀ i,i < n → CBody (cFm X env' h₁ F₁ l) Γc target (P i) ifs (b i) elt (g i)) (hg : ∀ i,i < n → b i = true → Safe (g i)) (hn : n ≤ 1000000)
  (H₁ : Holds X Γ F₁ m l h₁) (itr : Iter X.prog X.w X.A I h₁ n Pv St target) (nv : ∀ i o,St i o → NoVal o) (rp : ∀ i v,i < n → Pv i v → Rep X.prog X.w F₁ (RS X l) v (P i))
  {k : Nat} (ci : CI X (cFm X env' h₁ F₁ l) Γc F₁ (RS X l) St b g n acc I ex k h) {Qn In : Heap → Prop} (hq : ∀ h',CE X Γ F₁ m l h₁ acc env'.locals (.list (((List.range n).filter b).map g)) h' → Qn h') (hi : ∀ j h',j < k → CI X (cFm X env' h₁ F₁ l) Γc F₁ (RS X l) St b g n acc I ex j h' → In h') :
  TP X.prog X.w X.A (pyNext (.ref I)) h fun r h₁=>match r with
   | none=>Qn h₁
   | some v=>TP X.prog X.w X.A (letOwnedTupleGo target (.ref I) v) h₁ fun zz h₂=>CompBodyP X.prog X.w X.A env' target ifs elt (.ref acc) v h₂ In:=by
 obtain ⟨i,F1,m1,oa,vs,o,ex1,hk,le1,HH,hex,lv,rv,hst⟩:=ci
 have HS : S h₁ [] env'.locals m1 ((acc,oa) :: (I,o) :: ex1) h:=HH.s
 have gI : h.get? I = some o:=HS.get (.tail _ (.head _))
 by_cases hlt : i < n
 ·refine (TP.of (itr.item i h o hlt HS.base gI hst)).mono fun r h₄ ⟨v,o',hr,hP,s₄,g₄,hst'⟩ => ?_
  subst hr
  have H₄:=HH.ledU hnoc (i:=1) (a:=I) (o:=o) rfl (nv _ _ hst).2.1 (nv _ _ hst').2.1 rfl s₄ g₄
  refine (TP.of (itr.go i v h₄ o' hP g₄ hst')).mono fun zz h₅ e5 => ?_
  subst e5
  obtain ⟨Γ1,no1,up1,as1,tb1,el1⟩:=body i hlt
  refine (as1 F1 m1 _ h₅ v H₄ ((rp i v hlt hP).mono le1 fun zz zz e=>e)).mono fun _ h₆ ⟨F6,m6,l6,le6,H₆,hm6,kl6⟩ => ?_
  obtain ⟨ex6,rfl,hex6⟩:=led_two (ex:=ex1) H₆.s hm6 ((kl6 acc oa (.head _)).elim (fun ⟨u,q⟩=>(isLst_ncel lv u q).elim) id) ((kl6 I o' (.tail _ (.head _))).elim (fun ⟨u,q⟩=>((nv _ _ hst').2.1 _ q).elim) id)
  refine (tb1 F6 m6 _ h₆ H₆).mono fun c h₇ ⟨F7,le7,H₇,hc⟩ => ?_
  subst hc
  have le : ∀ a o,F1 a o → F7 a o:=fun a o e=>le7 a o (le6 a o e)
  cases hb : b i with
  | false =>
   refine hi (k - 1) _ (by omega) ⟨i + 1,F7,m6,oa,vs,o',ex6,by omega,fun a o e=>le a o (le1 a o e),H₇.weak up1,hex6.trans hex,lv, ?_,hst'⟩
   rw [range_step,hb]
   simpa using rv.mono le fun zz zz e=>e
  | true =>
   refine E.go (el1 hb) H₇ fun F8 x h₈ le8 H₈ r8 => ?_
   have len : vs.length ≤ i:=by
    rw [rv.length,List.length_map]
    exact Nat.le_trans (List.length_filter_le _ _) (by walk_at "ms")
   refine TP.of (t_append (H₈.s.get (.head _)) lv (by rw [sizeLine_eq]; omega) fun h₉ o₉ s₉ g₉ l₉ => ?_)
   refine hi (k - 1) _ (by omega) ⟨i + 1,F8,m6,o₉,_,o',ex6,by omega,fun a o e=>le8 a o (le a o (le1 a o e)),(H₈.ledU no1 (i:=0) (a:=acc) (o:=oa) rfl (isLst_ncel lv) (isLst_ncel l₉) rfl s₉ g₉).weak up1,hex6.trans hex,l₉, ?_,hst'⟩
   rw [range_step,if_pos hb]
   exact (rv.mono (fun a o e=>le8 a o (le a o e)) fun zz zz e=>e).append (.cons (Rep.safe (R':=RS X l) r8 (hg i hlt hb)) .nil)
 ·obtain rfl : i = n:=by omega
  refine (TP.of (itr.done h o HS.base gI hst)).mono fun r h₄ ⟨hr,s₄⟩ => ?_
  subst hr
  have nd : acc ≠ I:=fun q=>by
   have:=HS.nodup
   rw [List.map_cons,List.map_cons,List.nodup_cons] at this
   exact this.1 (q ▸ .head _)
  have HB : S h₁ [] env'.locals m1 [(acc,oa)] h₄:=(HS.drop (l':=[(acc,oa)]) (List.cons_sublist_cons.mpr (List.nil_sublist _)) (by walk_at "ms")).keepBut s₄ fun b hb=>by
   obtain rfl : b = I:=by simpa using hb
   exact ⟨by simp,(HS.own (b,o) (.tail _ (.head _))).resolve_left (by walk_at "ms"),fun z=>HS.offL (z ▸ .tail _ (.head _)),by simpa using nd.symm⟩
  have fr1:=H₁.fresh ((HS.own (acc,oa) (.head _)).resolve_left (by walk_at "ms"))
  refine hq _ ⟨m1,F1,oa,HB.ns,HB.newL,le1,(H₁.sub HB.base).grow le1 (fun a o e=>⟨s₄ _ _ (fun z => ?_) (HH.fz a o e).1, ?_⟩) fun a o e => ?_,HB.get (.head _),⟨fr1.new,fr1.offL,fr1.offl,fun o e=>(HH.fz acc o e).2.2 (.head _)⟩,.list lv rv,fun z=>HS.offL (z ▸ .head _),fun a o e=>(HH.fz a o e).2.1⟩
  ·obtain rfl : a = I:=by simpa using z
   exact (HH.fz a o e).2.2 (.tail _ (.head _))
  ·exact (HH.fn a o e).elim (fun q=>(H₁.fz a o q).2) fun q=>(H₁.s.fresh q).2
  ·exact (HH.fn a o e).elim (H₁.fn a o) fun q => .inr (H₁.s.fresh q).1
end
end
end Mine
end
section
namespace Mine
section
variable {X : Fm} {Γ Γ' Γc : Ctx} {F F' : Store} {m : Str → Option Value} {l : List (Addr × Obj)} {h h' : Heap} {Q : Out → Prop} {rest : List Stmt} {s : Scope} {cn : List Str}
theorem Holds.off (H : Holds X Γ F m l h) {C : Addr} (h0 : X.h₀.get? C = none) (hL : C ≠ X.env.locals) (hl : C ∉ l.map (·.1)) (hF : ∀ a o,F a o → a ≠ C) (sb : Sub [C] h h') : Holds X Γ F m l h' where
 s:=H.s.keepBut sb fun b hb=>by
  obtain rfl : b = C:=by simpa using hb
  exact ⟨fun q=>hl (H.s.dl _ q),h0,hL,hl⟩
 fz:=fun a o e=>⟨sb _ _ (by simpa using hF a o e) (H.fz a o e).1,(H.fz a o e).2⟩
 fn:=H.fn
 f0:=H.f0
 nm:=H.nm
 inj:=H.inj
 cel:=H.cel
 pl:=H.pl
noncomputable def LaysEnv (scope : Scope) (xs : List Str) : Prop := ∀ {M : Model} {A : Around} {E : Value → Shared → Prop} {s : Shared} {globals : Addr} {cl : List (Str × Addr)} {qual : Str} {env : Env} {Q : Env → Shared → Prop},
 (∀ h₃ xc ex,xc.map (·.1) = xs → OwnC xc ex s.heap scope.names → Sub [] s.heap h₃ → h₃.Ns s.heap.objs.size (fun zz=>none) → (∀ p ∈ ex,h₃.get? p.1 = some p.2 ∧ s.heap.get? p.1 = none ∧ p.1 ≠ s.heap.objs.size) → (ex.map (·.1)).Nodup → Q (newEnv scope s.heap.objs.size globals (xc ++ cl) qual none .none (some env) builtinsNs) { s with heap:=h₃ }) →
 wpAny M A (newFunctionEnv scope globals cl [] qual none .none (some env)) Q E s
theorem lays0 {scope : Scope} (hcell : ∀ y ∈ scope.names,y.2 ≠ .cell) (hkind : scope.kind = .function) : LaysEnv scope []:=fun {_ _ _ s _ _ _ _ _} q =>
 wpAny_newFunctionEnv hcell (fun y hy=>nomatch hy) (fun h₃ hns hsb=>q h₃ [] [] rfl .nil (fun b o zz eb=>by
  have hb : b ≠ s.heap.objs.size:=fun q=>by rw [q,get_size_none] at eb; cases eb
  exact hsb.extBut b o hb (Heap.get?_push_of_some _ eb)) hns (fun p hp=>nomatch hp) List.nodup_nil) hkind
theorem none_sub {h h' : Heap} {a : Addr} (s : Sub [] h h') (ha : h'.get? a = none) : h.get? a = none:=by
 cases q : h.get? a with
 | none=>rfl
 | some o=>rw [s a o (by walk_at "ms") q] at ha; cases ha
theorem OwnC.up {xc : List (Str × Addr)} {ex : List (Addr × Obj)} {names : List (Str × NameKind)} {h h' : Heap} (x : OwnC xc ex h' names) (s : Sub [] h h') : OwnC xc ex h names:=⟨fun y c e=>⟨none_sub s (x.new y c e).1,(x.new y c e).2⟩,x.inj,x.nf⟩
noncomputable def ItCL (lo : Nat) (X : Fm) (Γ : Ctx) (iter target : PySem.Expr) (n : Nat) (P : Nat → PV) : Prop := ∀ F m l h,Holds X Γ F m l h → TPL lo X.prog X.w X.A (eval iter X.env) h fun xv h₁=>FP X Γ F m l (fun F'=>TP X.prog X.w X.A (pyIter xv) h₁ (IP X F' (RS X l) (fun h=>h = h₁ ∧ Std F' h ∧ Std (RS X l) h) target n P h₁)) h₁
structure CFrm (X X' : Fm) (s scope : Scope) (xs : List Str) : Prop where
 ok : FmOk X'
 sc : Sc X' (relabel scope (scEnv s)) (xs ++ closN scope.names)
 top : SameTop X X'
 own : ∀ x ∈ xs,∃ c,X'.env.cells.lookup x = some c ∧ X'.h₀.get? c = none
theorem lookup_some {α : Type} {x : Str} : ∀ {xc : List (Str × α)},x ∈ xc.map (·.1) → ∃ c,xc.lookup x = some c
 | [],h=>nomatch h
 | (y,c) :: r,h=>by
  rw [List.lookup_cons]
  cases hy : x == y with
  | true=>exact ⟨c,rfl⟩
  | false=>exact lookup_some ((List.mem_cons.mp h).resolve_left fun e=>by rw [show x = y from e,beq_self_eq_true] at hy; cases hy)
theorem comp_free {scope : Scope} (sc : Sc X s cn) (k3 : (scope.names.all fun y=>y.2 != .free || cn.contains y.1) = true) : ∀ y ∈ scope.names,y.2 = .free → (X.env.cells.lookup y.1).isSome = true:=fun y hy hf=>by
 have:=List.all_eq_true.mp k3 y hy
 rw [hf] at this
 refine lookup_some_of_mem ?_
 rw [sc.c]
 simpa using this
theorem comp_local {scope : Scope} (k2 : (scope.names.all fun y=>y.2 != .local || decide (scope.names.lookup y.1 = some .local)) = true) : ∀ y ∈ scope.names,y.2 = .local → scope.names.lookup y.1 = some .local:=fun y hy hl=>by
 have:=List.all_eq_true.mp k2 y hy
 simpa [hl] using this
theorem comp_run {lo : Nat} (ok : FmOk X) (sc : Sc X s cn) {elt target iter : PySem.Expr} {ifs : List PySem.Expr} {scope : Scope} {pos pos' : Pos} {n : Nat} {P : Nat → PV} {b : Nat → Bool} {g : Nat → PV} {xs : List Str} (lays : LaysEnv scope xs)
    (hfree : ∀ y ∈ scope.names, y.2 = .free → (X.env.cells.lookup y.1).isSome = true) (hnames : ∀ y ∈ scope.names, y.2 = .local → scope.names.lookup y.1 = some .local) (hkind : scope.kind = .function) (hcc : CompCtx s scope Γ Γc) (it : ItCL lo X Γ iter target n P) (hn : n ≤ 1000000)
    (body : ∀ X' : Fm, CFrm X X' s scope xs → ∀ i, i < n → CBody X' Γc target (P i) ifs (b i) elt (g i)) (hg : ∀ i, i < n → b i = true → Safe (g i)) (hs : ∀ x, foldedSetIterable iter X.env x = pure x) {use : Option (Value → Sem Unit)} {Q' : Value → Shared → Prop} {s₀ : Shared}
    (H : Holds X Γ F m l s₀.heap) (hp₀ : Made lo s₀.toks (s₀.gens, s₀.drawn))
    (k : ∀ F₁ h₁ acc L h' tk gs, (∀ a o, F a o → F₁ a o) → Holds X Γ F₁ m l h₁ → CE X Γ F₁ m l h₁ acc L (.list (((List.range n).filter b).map g)) h' → Made 1 tk gs → compPost (model X.prog X.w) X.A (fun zz zz => False) use Q' (.ref acc) L (.ok .next) { s₀ with heap := h', toks := tk, gens := gs.1, drawn := gs.2 }) :
    wpAny (model X.prog X.w) X.A (comprehension (.ListComp elt [⟨target, iter, ifs, 0⟩] scope pos) scope X.env pos' (newList []) false (eval iter X.env) use) Q' (fun zz zz => False) s₀ := by
  refine wpAny_comprehension_free (use := use) rfl hs (closure_eq hfree) hkind hnames (TPL.el (it F m l _ H) rfl hp₀ fun xv h₁ t₁ gs₁ hp₁ ⟨F₁, le₁, H₁, hit⟩ => TP.nx hit hp₁ fun itv h₂ t₂ gs₂ hp₂ ⟨I, oI, St, Pv, ei, sub₂, nI, gI, st0, nv, itr, rp⟩ => ?_)
  subst ei
  have Itr := itr h₁ ⟨rfl, fun a o e => (H₁.fz a o e).1, fun a o e => H₁.rs ok e⟩
  refine wpAny_newObj_type (lays fun h₃ xc ex hxs oc s34 ns3 hex nde => ?_)
  dsimp only at oc s34 ns3 hex ⊢
  have nA : h₂.get? h₂.objs.size = none := get_size_none _
  generalize hH2 : h₂.push { cls := .type "list", dict := none, data := .seq ([] : List Value).toArray } = H2 at oc s34 ns3 hex ⊢
  have gA : H2.get? h₂.objs.size = some { cls := .type "list", dict := none, data := .seq ([] : List Value).toArray } := by rw [← hH2]; exact get_push_self _ _
  have s23 : Sub [] h₂ H2 := by rw [← hH2]; exact Sub.push _ _
  have nC : H2.get? H2.objs.size = none := get_size_none _
  generalize h₂.objs.size = aA at *
  generalize H2.objs.size = aC at *
  have s13 : Sub [] h₁ H2 := sub₂.trans s23
  have gI2 : H2.get? I = some oI := s23 _ _ (by walk_at "ms") gI
  have ne : ∀ {a c o}, H2.get? a = some o → H2.get? c = none → a ≠ c := fun h1 h2 z => by rw [z, h2] at h1; cases h1
  have HS : S h₁ [] aC (fun zz => none) ((aA, { cls := .type "list", dict := none, data := .seq ([] : List Value).toArray }) :: (I, oI) :: ex) h₃ := {
    base := s13.trans s34
    ns := ns3
    led := fun p hp => by
      rcases List.mem_cons.mp hp with rfl | hp
      · exact s34 _ _ (by walk_at "ms") gA
      rcases List.mem_cons.mp hp with rfl | hp
      · exact s34 _ _ (by walk_at "ms") gI2
      · exact (hex p hp).1
    own := fun p hp => by
      rcases List.mem_cons.mp hp with rfl | hp
      · exact .inr (none_sub sub₂ nA)
      rcases List.mem_cons.mp hp with rfl | hp
      · exact .inr nI
      · exact .inr (none_sub s13 (hex p hp).2.1)
    nodup := by
      refine List.nodup_cons.mpr ⟨fun z => ?_, List.nodup_cons.mpr ⟨fun z => ?_, nde⟩⟩
      · rcases List.mem_cons.mp z with z | z
        · have z : aA = I := z
          rw [← z, nA] at gI; cases gI
        · obtain ⟨p, hp, e⟩ := List.mem_map.mp z
          exact ne gA (hex p hp).2.1 e.symm
      · obtain ⟨p, hp, e⟩ := List.mem_map.mp z
        exact ne gI2 (hex p hp).2.1 e.symm
    offL := fun z => by
      rcases List.mem_cons.mp z with z | z
      · exact ne gA nC z.symm
      rcases List.mem_cons.mp z with z | z
      · exact ne gI2 nC z.symm
      · obtain ⟨p, hp, e⟩ := List.mem_map.mp z
        exact (hex p hp).2.2 e
    newL := none_sub s13 nC
    dl := by simp }
  have oc := oc.up s13
  have off0 : ∀ p ∈ (aA, { cls := .type "list", dict := none, data := .seq ([] : List Value).toArray }) :: (I, oI) :: ex, ∀ a o, F₁ a o → p.1 ≠ a := fun p hp a o e q => by
    rcases HS.own p hp with z | z
    · cases z
    · rw [q, (H₁.fz a o e).1] at z; cases z
  have hsc : (compEnvC scope (xc ++ closL X.env.cells scope.names []) aC X.env).scope = relabel scope X.env := rfl
  have ok' := cFm_ok ok H₁ hfree (cenv_ok ok.e hkind : EnvOk (compEnvC scope (xc ++ closL X.env.cells scope.names []) aC X.env)) rfl oc
  have fr : CFrm X (cFm X (compEnvC scope (xc ++ closL X.env.cells scope.names []) aC X.env) h₁ F₁ l) s scope xs := ⟨ok', ⟨hsc.trans (relabel_of (show X.env.scope = (scEnv s).scope from sc.s)), by
    show (xc ++ closL X.env.cells scope.names []).map (·.1) = _
    rw [List.map_append, closL_map, hxs]; rfl⟩, ⟨rfl, rfl, rfl, rfl, rfl⟩, fun x hx => by
    obtain ⟨c, hc⟩ := lookup_some (xc := xc) (hxs ▸ hx)
    exact ⟨c, by show (xc ++ closL X.env.cells scope.names []).lookup x = _; rw [List.lookup_append, hc]; rfl, (oc.new _ _ hc).1⟩⟩
  have noc : ∀ x c, Γc.lookup x = some c → c.addrs = [] := fun x c e => by
    obtain ⟨c', _, rfl, _⟩ := hcc x _ e
    exact inC_addrs _
  have loop : TLP X.prog X.w X.A (.compLoop (.ListComp elt [⟨target, iter, ifs, 0⟩] scope pos) 0 (.ref I) (.ref aA) (compEnvC scope (xc ++ closL X.env.cells scope.names []) aC X.env)) h₃ (CE X Γ F₁ m l h₁ aA aC (.list (((List.range n).filter b).map g))) :=
    tlp_loop _ (fun j h ci => comp_turn ok noc (body _ fr) hg hn H₁ Itr nv rp ci (fun zz q => q) fun i h' a c => ⟨i, a, c⟩) n ⟨0, F₁, _, _, [], oI, ex, rfl, fun zz zz e => e, cFm_holds ok sc H₁ hfree hcc hsc rfl oc HS off0 fun p hp => .tail _ (.tail _ hp), rfl, ⟨0, rfl⟩, .nil, st0⟩
  have post : ∀ tk gs, Made 1 tk gs → codeAny (model X.prog X.w) X.A (.compLoop (.ListComp elt [⟨target, iter, ifs, 0⟩] scope pos) 0 (.ref I) (.ref aA) (compEnvC scope (xc ++ closL X.env.cells scope.names []) aC X.env)) (compPost (model X.prog X.w) X.A (fun zz zz => False) use Q' (.ref aA) aC) { s₀ with heap := h₃, toks := tk, gens := gs.1, drawn := gs.2 } := fun tk gs hp =>
    codeAny_mono (loop _ rfl hp) fun r s' z => by
      obtain ⟨h', tk, gs, hp, z⟩ := z
      exact k F₁ h₁ aA aC h' tk gs le₁ H₁ z hp
  exact codeAny_compStart_list (post _ _ hp₂) (TP.nx (TP.of (Itr.self h₃ oI HS.base (HS.get (.tail _ (.head _))) st0)) hp₂ fun it' h₅ t₅ gs hp ⟨e1, e2⟩ => by
    subst e1; subst e2
    exact post _ _ hp)
inductive LBody (X : Fm) (Γc : Ctx) (target : PySem.Expr) (p : PV) (ifs : List PySem.Expr) (b : Bool) (elt : PySem.Expr) (g : PV) : Prop
 | mk (Γ1 : Ctx) : (∀ x b,Γ1.lookup x = some b → b.addrs = []) → (∀ x b,Γc.lookup x = some b → Γ1.lookup x = some b) → AsL X Γc target p Γ1 → TB X Γ1 ifs b → (b = true → E X Γ1 elt g) → LBody X Γc target p ifs b elt g
theorem LBody.c {target : PySem.Expr} {p : PV} {ifs : List PySem.Expr} {b : Bool} {elt : PySem.Expr} {g : PV} : LBody X Γc target p ifs b elt g → CBody X Γc target p ifs b elt g
 | ⟨Γ1,a,b,c,d,e⟩=>⟨Γ1,a,b,c.c,d,e⟩
theorem CE.np {F₁ : Store} {h₁ : Heap} {acc L : Addr} {p : PV} (le₁ : ∀ a o,F a o → F₁ a o) (H₁ : Holds X Γ F₁ m l h₁) (ce : CE X Γ F₁ m l h₁ acc L p h) : ∃ m₁,h.Ns L m₁ ∧ ∀ h',Heap.SameBut L h h' → NP X Γ F m l p (.ref acc) h':=by
 obtain ⟨m₁,F',o,ns,hC,le',H',ho,fr,oR,nC,FC⟩:=ce
 obtain ⟨f1,f2,f3⟩:=H₁.s.fresh hC
 exact ⟨m₁,ns,fun h' hs=>⟨F',acc,o,fun a o e=>le' a o (le₁ a o e),H'.off f1 f2 f3 FC (Sub.same hs),rfl,(hs.2 acc nC).trans ho,fr,oR⟩⟩
theorem N.comp (ok : FmOk X) (sc : Sc X s cn) (Γc : Ctx) {elt target iter : PySem.Expr} {ifs : List PySem.Expr} {scope : Scope} {pos : Pos} {n : Nat} {P : Nat → PV} (b : Nat → Bool) (g : Nat → PV)
  (hcell : compOk s cn scope = true) (hkind : scope.kind = .function) (hcc : CompCtx s scope Γ Γc) (it : ItC X Γ iter target n P) (hn : n ≤ 1000000)
  (body : ∀ X' : Fm,FmOk X' → Sc X' (relabel scope (scEnv s)) (closN scope.names) → SameTop X X' → ∀ i,i < n → LBody X' Γc target (P i) ifs (b i) elt (g i))
  (hg : ∀ i,i < n → b i = true → Safe (g i)) (hs : ∀ x,foldedSetIterable iter X.env x = pure x:=by intro _; rfl) : N X Γ (.ListComp elt [⟨target,iter,ifs,0⟩] scope pos) (.list (((List.range n).filter b).map g)):=fun F m l h H s₀ es hp₀=>by
 subst es
 rw [eval_ListComp]
 rw [compOk,Bool.and_eq_true,Bool.and_eq_true] at hcell
 exact comp_run (lo:=1) ok sc (lays0 (comp_looks hcell.1.1 hcell.1.2).1 hkind) (comp_free sc hcell.2) (comp_local hcell.1.2) hkind hcc it hn (fun X' f i hi=>(body X' f.ok f.sc f.top i hi).c) hg hs H hp₀ fun F₁ h₁ acc L h' tk gs le₁ H₁ ce hp =>
  let ⟨m₁,ns,q⟩:=ce.np le₁ H₁; ⟨m₁,ns,fun h'' hs'' => .mk _ _ _ hp (q h'' hs'')⟩
theorem ex_assignCompL {lo : Nat} (ok : FmOk X) (sc : Sc X s cn) (Γc : Ctx) {elt target iter : PySem.Expr} {ifs : List PySem.Expr} {scope : Scope} {pos py spos : Pos} {y : Str} {n : Nat} {P : Nat → PV} (b : Nat → Bool) (g : Nat → PV)
  (hcell : compOk s cn scope = true) (hkind : scope.kind = .function) (hcc : CompCtx s scope Γ Γc) (it : ItCL lo X Γ iter target n P) (hn : n ≤ 1000000)
  (body : ∀ X' : Fm,FmOk X' → Sc X' (relabel scope (scEnv s)) (closN scope.names) → SameTop X X' → ∀ i,i < n → LBody X' Γc target (P i) ifs (b i) elt (g i))
  (hg : ∀ i,i < n → b i = true → Safe (g i)) (hy : X.env.kindOf y = some .local) (hsw : swapsWith (.ListComp elt [⟨target,iter,ifs,0⟩] scope pos) (some (.Name y py)) spos.line X.env = pure true)
  (r : ∀ a,a ∉ X.D → Ex X ((y,.own a (.list (((List.range n).filter b).map g))) :: Γ) rest Q)
  (hs : ∀ x,foldedSetIterable iter X.env x = pure x:=by intro _; rfl) : ExL lo X Γ (.Assign [.Name y py] (.ListComp elt [⟨target,iter,ifs,0⟩] scope pos) spos :: rest) Q := .cons fun F m l h H s₀ es hp₀=>by
 subst es
 rw [compOk,Bool.and_eq_true,Bool.and_eq_true] at hcell
 rw [exec_Assign_Name_used _ _ _ _ hsw]
 refine wpAny_bind (wpAny_standAt (wpAny_bind ?_))
 show wpAny _ X.A (do let _ ← comprehension (.ListComp elt [⟨target,iter,ifs,0⟩] scope pos) scope X.env _ (newList []) false (eval iter X.env) (some (PySem.assign (.Name y py) X.env))) _ _ s₀
 refine wpAny_bind (wpAny_mono (comp_run (use:=some (PySem.assign (.Name y py) X.env)) (Q':=fun zz=>Po s₀ (OutOk X F (Kx X rest Q)) .next) ok sc (lays0 (comp_looks hcell.1.1 hcell.1.2).1 hkind) (comp_free sc hcell.2) (comp_local hcell.1.2) hkind hcc it hn (fun X' f i hi=>(body X' f.ok f.sc f.top i hi).c) hg hs H hp₀ fun F₁ h₁ acc L h' tk gs le₁ H₁ ce hpk => ?_) (fun zz s' hq=>wpAny_pure (wpAny_pure hq)) fun zz zz z=>z)
 obtain ⟨m₁,F',o,ns,hC,le',H',ho,fr,oR,nC,FC⟩:=ce
 obtain ⟨f1,f2,f3⟩:=H₁.s.fresh hC
 have sp : Safe (.list (((List.range n).filter b).map g)):=Safes.all fun x hx=>by
  obtain ⟨i,hi,rfl⟩:=List.mem_map.mp hx
  obtain ⟨h1,h2⟩:=List.mem_filter.mp hi
  exact hg i (List.mem_range.mp h1) h2
 show wpAny _ _ (PySem.assign (.Name y py) X.env (.ref acc)) _ _ _
 refine wpAny_assign_Name (TP.nx (H'.putO ok (.inl hy) fr ho oR sp) hpk fun _ h₄ t₄ gs₄ hp₄ ⟨m',l',H₄,q⟩ => ?_)
 obtain ⟨rfl,sb⟩:=q hy
 refine ⟨m₁, ?_,fun h₅ hs₅=>⟨h₅,t₄,_,hp₄,_,F',m',l ++ [(acc,o)],fun a o e=>le' a o (le₁ a o e), ?_,r acc fun z=>fr.offl (H₁.s.dl _ z)⟩⟩
 ·obtain ⟨oL,a1,a2,a3,a4⟩:=ns
  exact ⟨oL,a1,a2,sb _ _ (by simpa using f2) a3,a4⟩
 ·refine H₄.off f1 f2 ?_ FC (Sub.same hs₅)
  rw [List.map_append,List.mem_append]
  exact fun q=>q.elim f3 fun q=>nC (List.mem_singleton.mp q).symm
end
theorem call_cellsP {prog : Program} {w : World} {A : Around} {s : Shared} {R : Result → Shared → Prop} {a : Addr} {o : Obj} {fd : FuncData} {body : List Stmt} {vals : List Value} {binds : List (Str × Value)}
  (hroom : A.depth < recursionLimit) (ho : s.heap.get? a = some o) (hdata : o.data = .func fd) (hlim : s.heap.NoLimit) (hcd : s.heap.CodeRec fd.code fd.qualname)
  (hbody : fd.body = .stmts body) (hbind : bindArgs fd ⟨vals,[]⟩ = pure binds) (hclo : fd.closure = [])
  (hkind : ∀ x ∈ binds,fd.scope.names.lookup x.1 = some .local ∨ (fd.scope.names.lookup x.1 = some .cell ∧ ((cellsFrom (s.heap.objs.size + 1) fd.scope.names []).lookup x.1).isSome = true))
  (h : ∀ s₁,InCallC s (callEnvC fd s.heap.objs.size a).locals (bindL (callEnvC fd s.heap.objs.size a).kindOf binds fun zz=>none) (callEnvC fd s.heap.objs.size a).cells
    (bindC (callEnvC fd s.heap.objs.size a).kindOf binds fun zz=>none) s₁ → s.toks ≤ s₁.toks →
   wpAny (model prog w) (A.deeper (callEnvC fd s.heap.objs.size a)) (execs body (callEnvC fd s.heap.objs.size a)) (fun f s'=>R (.ok (.ret (match f with | .ret v=>v | _ => .none))) s')
    (fun e s'=>wpAny (model prog w) (A.deeper (callEnvC fd s.heap.objs.size a)) (leaving (callEnvC fd s.heap.objs.size a) e) (fun zz s''=>R (.error e) s'') (fun e' s''=>R (.error e') s'') s') s₁)
  (hco : fd.scope.isCoroutine = false) (hgen : fd.scope.isGenerator = false) (hk : fd.scope.kind = .function) :
  codeAny (model prog w) A (.call (.ref a) ⟨vals,[]⟩) R s:=by
 refine codeAny_call_function hroom ho hdata hco hgen hbody hcd ?_
 rw [hbind,hclo]
 refine wpAny_pure (wpAny_mono (wpAny_toks (wpAny_newFunctionEnv_cells (Q:=fun env s'=>env = callEnvC fd s.heap.objs.size a ∧ InCallC s (callEnvC fd s.heap.objs.size a).locals (bindL (callEnvC fd s.heap.objs.size a).kindOf binds fun zz=>none) (callEnvC fd s.heap.objs.size a).cells
    (bindC (callEnvC fd s.heap.objs.size a).kindOf binds fun zz=>none) s') hk hkind fun env he s' x => ?_)) ?_ fun zz zz z=>z)
 ·subst he
  exact ⟨rfl,x⟩
 ·rintro env s' ⟨⟨rfl,x⟩,le⟩
  exact ⟨hlim.keeps x.toInCall.keep,codeAny_func (h s' x le)⟩
noncomputable def cellNames (names : List (Str × NameKind)) (acc : List Str) : List Str:=names.foldl (fun cs y=>if y.2 == .cell then y.1 :: cs else cs) acc
theorem cellsFrom_names : ∀ (names : List (Str × NameKind)) (n : Nat) (acc : List (Str × Addr)),(cellsFrom n names acc).map (·.1) = cellNames names (acc.map (·.1))
 | [],_,_=>rfl
 | (y,k) :: r,n,acc=>by
  unfold cellsFrom cellNames
  rw [List.foldl_cons]
  split
  ·exact cellsFrom_names r _ _
  ·exact cellsFrom_names r _ _
theorem bindL_not {kindOf : Str → Option NameKind} {x : Str} : ∀ (bs : List (Str × Value)) (m : Str → Option Value),x ∉ bs.map (·.1) → bindL kindOf bs m x = m x
 | [],_,_=>rfl
 | (n,v) :: r,m,hx=>by
  unfold bindL
  have h1 : x ≠ n:=fun q=>hx (by simp [q])
  rw [bindL_not r _ fun q=>hx (List.mem_cons_of_mem _ q)]
  split
  ·exact if_neg h1
  ·rfl
theorem bindL_eq {kindOf : Str → Option NameKind} {x : Str} {v : Value} (hk : kindOf x = some .local) : ∀ (bs : List (Str × Value)) (m : Str → Option Value),(bs.map (·.1)).Nodup → bs.lookup x = some v → bindL kindOf bs m x = some v
 | [],_,_,e=>by simp at e
 | (n,u) :: r,m,nd,e=>by
  rw [List.map_cons,List.nodup_cons] at nd
  rw [List.lookup_cons] at e
  unfold bindL
  by_cases h1 : x = n
  ·subst h1
   simp at e; subst e
   rw [bindL_not r _ nd.1,if_pos hk]
   simp
  ·have : (x == n) = false:=by simpa using h1
   rw [this] at e
   exact bindL_eq hk r _ nd.2 e
theorem bindC_not {kindOf : Str → Option NameKind} {x : Str} : ∀ (bs : List (Str × Value)) (m : Str → Option Value),x ∉ bs.map (·.1) → bindC kindOf bs m x = m x
 | [],_,_=>rfl
 | (n,v) :: r,m,hx=>by
  unfold bindC
  have h1 : x ≠ n:=fun q=>hx (by simp [q])
  rw [bindC_not r _ fun q=>hx (List.mem_cons_of_mem _ q)]
  split
  ·rfl
  ·exact if_neg h1
theorem bindC_eq {kindOf : Str → Option NameKind} {x : Str} {v : Value} (hk : kindOf x ≠ some .local) : ∀ (bs : List (Str × Value)) (m : Str → Option Value),(bs.map (·.1)).Nodup → bs.lookup x = some v → bindC kindOf bs m x = some v
 | [],_,_,e=>by simp at e
 | (n,u) :: r,m,nd,e=>by
  rw [List.map_cons,List.nodup_cons] at nd
  rw [List.lookup_cons] at e
  unfold bindC
  by_cases h1 : x = n
  ·subst h1
   simp at e; subst e
   rw [bindC_not r _ nd.1,if_neg hk]
   simp
  ·have : (x == n) = false:=by simpa using h1
   rw [this] at e
   exact bindC_eq hk r _ nd.2 e
theorem lookup_mem {cs : List (Str × Addr)} {x : Str} {c : Addr} (e : cs.lookup x = some c) : (x,c) ∈ cs:=by
 induction cs with
 | nil=>simp at e
 | cons y r ih =>
  rw [List.lookup_cons] at e
  by_cases h : x = y.1
  ·subst h; simp at e; subst e; exact .head _
  ·have : (x == y.1) = false:=by simpa using h
   rw [this] at e; exact .tail _ (ih e)
inductive Args (prog : Program) (w : World) (F : Store) (lD : List (Addr × Obj)) : List Value → List Bind → Prop
 | nil : Args prog w F lD [] []
 | fz {v : Value} {p : PV} {vs : List Value} {bs : List Bind} : Rep prog w F (fun zz zz=>False) v p → Args prog w F lD vs bs → Args prog w F lD (v :: vs) (.fz p :: bs)
 | mat {x d C : Addr} {od : Obj} {P : Store → Obj → Prop} {vs : List Value} {bs : List Bind} : F x (instObj C d) → (d,od) ∈ lD → (∃ es n,od = dictOf es n) → (∀ F',(∀ a o,F a o → ¬ NoVal o → F' a o) → P F' od) → (∀ b ∈ bs,d ∉ b.addrs) → Args prog w F lD vs bs → Args prog w F lD (.ref x :: vs) (.mat d C P :: bs)
 | gh {v : Value} {p : PV} {a : Addr} {o : Obj} {P : Obj → Prop} {vs : List Value} {bs : List Bind} : Rep prog w F (fun zz zz=>False) v p → (a,o) ∈ lD → P o → (∀ u,o.data ≠ .cell u) → (∀ b ∈ bs,a ∉ b.addrs) → Args prog w F lD vs bs → Args prog w F lD (v :: vs) (.gh p a P :: bs)
theorem Sto.cell {X : Fm} {s : Scope} {cn : List Str} (sc : Sc X s cn) (cnew : ∀ x c,X.env.cells.lookup x = some c → X.h₀.get? c = none) {x : Str} (h1 : s.names.lookup x = some .cell) (h2 : cn.contains x = true) : Sto X x := .inr ⟨(sc.kind x).trans h1,by
 have : x ∈ X.env.cells.map (·.1):=by rw [sc.c]; simpa using h2
 obtain ⟨c,hc⟩:=Option.isSome_iff_exists.mp (lookup_some_of_mem this)
 exact ⟨c,hc,cnew x c hc⟩⟩
theorem Sto.loc {X : Fm} {s : Scope} {cn : List Str} (sc : Sc X s cn) {x : Str} (h1 : s.names.lookup x = some .local) : Sto X x := .inl ((sc.kind x).trans h1)
structure Ret (prog : Program) (w : World) (F : Store) (h : Heap) (D : List Addr) (Q : PV → Ctx → Prop) (v : Value) (h' : Heap) : Prop where
 ex : ∃ p Γ' F',(∀ a o,F a o → F' a o) ∧ (∀ a o,F' a o → h'.get? a = some o ∧ a ∉ D ∧ (F a o ∨ h.get? a = none)) ∧ Rep prog w F' (fun zz zz=>False) v p ∧ Q p Γ' ∧
  (∀ x d C P,Γ'.lookup x = some (.mat d C P) → ∃ od,h'.get? d = some od ∧ (∃ es n,od = dictOf es n) ∧ ∀ F2,(∀ a o,F' a o → ¬ NoVal o → F2 a o) → P F2 od) ∧
  ∀ x a q,Γ'.lookup x = some (.own a q) → ∃ o,h'.get? a = some o ∧ ORep prog w F' (fun zz zz=>False) o q ∧ (a ∈ D ∨ h.get? a = none)
 sub : Sub D h h'
theorem fn_core {lo : Nat} {prog : Program} {w : World} {A : Around} {h : Heap} {K : Frag} {f : Addr} {fd : FuncData} {body : List Stmt} {vs : List Value} {ns : List Str} {bs : List Bind} {F : Store} {lD : List (Addr × Obj)} (rd : Nat) (pl : List Addr) (hpl : PlOk pl lD) (Q : PV → Ctx → Prop) (fk : FnOkC K f fd body) (hh : A.handled = none) (room : A.depth + 21 + rd < recursionLimit) (units : A.units + 30 + 10 * rd < cLine)
  (G : ∀ h',Sub (lD.map (·.1)) h h' → Gr K h') (std : ∀ a o,F a o → h.get? a = some o ∧ a ∉ lD.map (·.1)) (hl : ∀ p ∈ lD,h.get? p.1 = some p.2) (nd : (lD.map (·.1)).Nodup)
  (hbind : bindArgs fd ⟨vs,[]⟩ = pure (ns.zip vs)) (hns : ns.Nodup) (hlen : ns.length = vs.length) (hkind : (ns.all fun x=>decide (fd.scope.names.lookup x = some .local) || (decide (fd.scope.names.lookup x = some .cell) && (cellNames fd.scope.names []).contains x)) = true)
  (args : Args prog w F lD vs bs)
  (run : ∀ X : Fm,FmOk X → Sc X fd.scope (cellNames fd.scope.names []) → (∀ x c,X.env.cells.lookup x = some c → X.h₀.get? c = none) → X.prog = prog → X.w = w → X.K = K → X.D = lD.map (·.1) → X.rd = rd → X.pl = pl → X.env.code = fd.code → ExL lo X (ns.zip bs) body fun o=>match o with | .ret p Γ=>Q p Γ | .next Γ=>Q .none Γ | _=>False)
  (s₀ : Shared) (es : s₀.heap = h) (enter : ∀ R : Result → Shared → Prop,(∀ s₁,InCallC s₀ (callEnvC fd s₀.heap.objs.size f).locals (bindL (callEnvC fd s₀.heap.objs.size f).kindOf (ns.zip vs) fun zz=>none) (callEnvC fd s₀.heap.objs.size f).cells
    (bindC (callEnvC fd s₀.heap.objs.size f).kindOf (ns.zip vs) fun zz=>none) s₁ → Made lo s₁.toks (s₁.gens,s₁.drawn) →
   wpAny (model prog w) (A.deeper (callEnvC fd s₀.heap.objs.size f)) (execs body (callEnvC fd s₀.heap.objs.size f)) (fun f s'=>R (.ok (.ret (match f with | .ret v=>v | _ => .none))) s')
    (fun e s'=>wpAny (model prog w) (A.deeper (callEnvC fd s₀.heap.objs.size f)) (leaving (callEnvC fd s₀.heap.objs.size f) e) (fun zz s''=>R (.error e) s'') (fun e' s''=>R (.error e') s'') s') s₁) →
   codeAny (model prog w) A (.call (.ref f) ⟨vs,[]⟩) R s₀) :
  codeAny (model prog w) A (.call (.ref f) ⟨vs,[]⟩) (PoC s₀ fun v h'=>Ret prog w F h (lD.map (·.1)) Q v h' ∧ ∀ q ∈ pl,∃ o,h'.get? q = some o ∧ IsPl o) s₀:=by
 subst es
 obtain ⟨o,ho,hd⟩:=fk.lk
 have G0:=G _ Sub.refl
 have fst : (ns.zip vs).map (·.1) = ns:=by rw [List.map_fst_zip]; omega
 have hk : ∀ x ∈ ns,fd.scope.names.lookup x = some .local ∨ (fd.scope.names.lookup x = some .cell ∧ ∀ n,((cellsFrom n fd.scope.names []).lookup x).isSome = true):=fun x hx=>by
  have:=List.all_eq_true.mp hkind x hx
  simp only [Bool.or_eq_true,Bool.and_eq_true,decide_eq_true_eq] at this
  refine this.imp id fun q=>⟨q.1,fun n=>lookup_some_of_mem ?_⟩
  rw [cellsFrom_names]
  simpa using q.2
 refine enter _ (fun s₁ XC leT => ?_)
 ·generalize hL : s₀.heap.objs.size = L at *
  let env:=callEnvC fd L f
  obtain ⟨h₁,tk,rfl⟩:=XC.toInCall.same
  have hCells : env.cells = cellsFrom (L + 1) fd.scope.names []:=rfl
  have cell : ∀ n c,env.cells.lookup n = some c → h₁.IsCell c (bindC env.kindOf (ns.zip vs) (fun zz=>none) n):=XC.cell
  have above : ∀ n c,(n,c) ∈ env.cells → L < c:=XC.above
  have apart : env.cells.Pairwise fun x y=>x.2 ≠ y.2:=XC.apart
  have keep : ∀ b o,s₀.heap.get? b = some o → h₁.get? b = some o:=XC.toInCall.keep
  have ns' : h₁.Ns L (bindL env.kindOf (ns.zip vs) fun zz=>none):=XC.toInCall.ns
  have nL : s₀.heap.get? L = none:=by rw [← hL]; exact get_size_none _
  have nC : ∀ c,L < c → s₀.heap.get? c = none:=fun c hc=>by
   cases e : s₀.heap.get? c with
   | none=>rfl
   | some o=>exact absurd (Heap.lt_size e) (by rw [hL]; exact Nat.not_lt.mpr (Nat.le_of_lt hc))
  let oc : Str → Obj:=fun n=>match env.cells.lookup n with | some c=>(h₁.get? c).getD { cls := .none } | none=>{ cls := .none }
  have hoc : ∀ n c,env.cells.lookup n = some c → h₁.get? c = some (oc n) ∧ IsCel (oc n) (bindC env.kindOf (ns.zip vs) (fun zz=>none) n):=fun n c e=>by
   obtain ⟨oo,g,d⟩:=cell n c e
   simp only [oc,e,g,Option.getD_some]
   exact ⟨trivial,d⟩
  let lc : List (Addr × Obj):=(env.cells.filter fun p=>decide (env.cells.lookup p.1 = some p.2)).map fun p=>(p.2,oc p.1)
  have inlc : ∀ n c,env.cells.lookup n = some c → (c,oc n) ∈ lc:=fun n c e=>List.mem_map.mpr ⟨(n,c),List.mem_filter.mpr ⟨lookup_mem e,decide_eq_true e⟩,rfl⟩
  have oflc : ∀ p ∈ lc,∃ n,env.cells.lookup n = some p.1 ∧ p.2 = oc n ∧ L < p.1:=fun p hp=>by
   obtain ⟨q,hq,rfl⟩:=List.mem_map.mp hp
   obtain ⟨h1,h2⟩:=List.mem_filter.mp hq
   exact ⟨q.1,of_decide_eq_true h2,rfl,above q.1 q.2 h1⟩
  have old : ∀ {b o},s₀.heap.get? b = some o → b < L:=fun {b o} e=>hL ▸ Heap.lt_size e
  have H : S s₀.heap (lD.map (·.1)) L (bindL env.kindOf (ns.zip vs) fun zz=>none) (lc ++ lD) h₁:={
   base:=fun b o zz e=>keep b o e
   ns:=ns'
   led:=fun p hp=>(List.mem_append.mp hp).elim (fun q=>by
    obtain ⟨n,e1,e2,_⟩:=oflc p q
    rw [e2]; exact (hoc n p.1 e1).1) fun q=>keep _ _ (hl p q)
   own:=fun p hp=>(List.mem_append.mp hp).elim (fun q=>by
    obtain ⟨n,e1,e2,e3⟩:=oflc p q
    exact .inr (nC _ e3)) fun q => .inl (List.mem_map_of_mem q)
   nodup:=by
    rw [List.map_append,List.nodup_append]
    refine ⟨?_,nd,fun a ha b hb e => ?_⟩
    ·rw [List.map_map]
     exact List.pairwise_map.mpr (apart.sublist List.filter_sublist)
    ·obtain ⟨p,hp,rfl⟩:=List.mem_map.mp ha
     obtain ⟨q,hq,rfl⟩:=List.mem_map.mp hb
     obtain ⟨n,_,_,e3⟩:=oflc p hp
     have:=old (hl q hq)
     rw [← e] at this
     exact absurd this (Nat.lt_asymm e3)
   offL:=fun q=>by
    rw [List.map_append,List.mem_append] at q
    rcases q with q | q
    ·obtain ⟨p,hp,e⟩:=List.mem_map.mp q
     obtain ⟨n,_,_,e3⟩:=oflc p hp
     rw [e] at e3; exact Nat.lt_irrefl _ e3
    ·obtain ⟨p,hp,e⟩:=List.mem_map.mp q
     have:=old (hl p hp)
     rw [e] at this; exact Nat.lt_irrefl _ this
   newL:=nL
   dl:=fun d hd=>by rw [List.map_append]; exact List.mem_append_right _ hd }
  let X : Fm:=⟨prog,w,A.deeper env,env,s₀.heap,lD.map (·.1),F,fun zz zz=>False,K,rd,pl⟩
  have ok : FmOk X:={
   e:=fk.ok L
   hh:=hh
   gr:=G
   f0:=std
   xr:=fun a o q=>q.elim
   cinj:=fun x y c e1 e2=>by
    have m1:=lookup_mem e1
    have m2:=lookup_mem e2
    have : ∀ {cs : List (Str × Addr)},cs.Pairwise (fun x y=>x.2 ≠ y.2) → (x,c) ∈ cs → (y,c) ∈ cs → x = y:=by
     intro cs hp h1 h2
     induction cs with
     | nil=>cases h1
     | cons z r ih =>
      rw [List.pairwise_cons] at hp
      rcases List.mem_cons.mp h1 with h1 | h1
      ·rcases List.mem_cons.mp h2 with h2 | h2
       ·rw [← h1] at h2; cases h2; rfl
       ·exact absurd (by rw [← h1]) (hp.1 _ h2)
      ·rcases List.mem_cons.mp h2 with h2 | h2
       ·exact absurd (by rw [← h2]) (hp.1 _ h1)
       ·exact ih hp.2 h1 h2
    exact this apart m1 m2
   room:=by show A.depth + 1 + 20 + rd < _; omega
   units:=by show A.units + 3 + 20 + 10 * rd < _; omega }
  have sc : Sc X fd.scope (cellNames fd.scope.names []):=⟨rfl,by
   show env.cells.map (·.1) = _
   rw [hCells,cellsFrom_names]; rfl⟩
  have argBind : ∀ {ns : List Str} {vs : List Value} {bs : List Bind},Args prog w F lD vs bs → ns.length = vs.length → ∀ x b,(ns.zip bs).lookup x = some b → ∃ v,(ns.zip vs).lookup x = some v ∧ BindOk X F (lc ++ lD) v b:=by
   intro ns vs bs ar
   induction ar generalizing ns with
   | nil=>intro hl x b e; simp at e
   | fz r _ ih =>
    intro hl x b e
    cases ns with
    | nil=>simp at hl
    | cons n ns =>
     rw [List.zip_cons_cons,List.lookup_cons] at e ⊢
     by_cases hx : x = n
     ·subst hx
      simp at e ⊢
      subst e; exact r
     ·have : (x == n) = false:=by simpa using hx
      rw [this] at e ⊢
      exact ih (by simpa using hl) x b e
   | mat h1 h2 h3 h4 h5 _ ih =>
    intro hl x b e
    cases ns with
    | nil=>simp at hl
    | cons n ns =>
     rw [List.zip_cons_cons,List.lookup_cons] at e ⊢
     by_cases hx : x = n
     ·subst hx
      simp at e ⊢
      subst e; exact ⟨_,_,rfl,h1,List.mem_append_right _ h2,h3,h4⟩
     ·have : (x == n) = false:=by simpa using hx
      rw [this] at e ⊢
      exact ih (by simpa using hl) x b e
   | gh h1 h2 h3 h4 h5 _ ih =>
    intro hl x b e
    cases ns with
    | nil=>simp at hl
    | cons n ns =>
     rw [List.zip_cons_cons,List.lookup_cons] at e ⊢
     by_cases hx : x = n
     ·subst hx
      simp at e ⊢
      subst e; exact ⟨h1,_,List.mem_append_right _ h2,h3,h4⟩
     ·have : (x == n) = false:=by simpa using hx
      rw [this] at e ⊢
      exact ih (by simpa using hl) x b e
  have argInj : ∀ {ns : List Str} {vs : List Value} {bs : List Bind},Args prog w F lD vs bs → ns.length = vs.length → ∀ x y b c a,(ns.zip bs).lookup x = some b → (ns.zip bs).lookup y = some c → a ∈ b.addrs → a ∈ c.addrs → x = y:=by
   intro ns vs bs ar
   have memOf : ∀ {ns : List Str} {bs : List Bind} {x b},(ns.zip bs).lookup x = some b → b ∈ bs:=by
    intro ns bs x b e
    induction ns generalizing bs with
    | nil=>simp at e
    | cons n ns ih =>
     cases bs with
     | nil=>simp at e
     | cons b' bs =>
      rw [List.zip_cons_cons,List.lookup_cons] at e
      by_cases hx : x = n
      ·subst hx; simp at e; subst e; exact .head _
      ·have : (x == n) = false:=by simpa using hx
       rw [this] at e; exact .tail _ (ih e)
   induction ar generalizing ns with
   | nil=>intro hl x y b c a e; simp at e
   | fz r _ ih =>
    intro hl x y b c a e1 e2 a1 a2
    cases ns with
    | nil=>simp at hl
    | cons n ns =>
     rw [List.zip_cons_cons,List.lookup_cons] at e1 e2
     by_cases hx : x = n
     ·subst hx; simp at e1; subst e1; cases a1
     ·by_cases hy : y = n
      ·subst hy; simp at e2; subst e2; cases a2
      ·have h1 : (x == n) = false:=by simpa using hx
       have h2 : (y == n) = false:=by simpa using hy
       rw [h1] at e1; rw [h2] at e2
       exact ih (by simpa using hl) x y b c a e1 e2 a1 a2
   | mat h1 h2 h3 h4 h5 _ ih =>
    intro hl x y b c a e1 e2 a1 a2
    cases ns with
    | nil=>simp at hl
    | cons n ns =>
     rw [List.zip_cons_cons,List.lookup_cons] at e1 e2
     by_cases hx : x = n
     ·by_cases hy : y = n
      ·rw [hx,hy]
      ·have q2 : (y == n) = false:=by simpa using hy
       rw [q2] at e2
       subst hx; simp at e1; subst e1
       rw [List.mem_singleton.mp a1] at a2
       exact absurd a2 (h5 _ (memOf e2))
     ·have q1 : (x == n) = false:=by simpa using hx
      rw [q1] at e1
      by_cases hy : y = n
      ·subst hy; simp at e2; subst e2
       rw [List.mem_singleton.mp a2] at a1
       exact absurd a1 (h5 _ (memOf e1))
      ·have q2 : (y == n) = false:=by simpa using hy
       rw [q2] at e2
       exact ih (by simpa using hl) x y b c a e1 e2 a1 a2
   | gh h1 h2 h3 h4 h5 _ ih =>
    intro hl x y b c a e1 e2 a1 a2
    cases ns with
    | nil=>simp at hl
    | cons n ns =>
     rw [List.zip_cons_cons,List.lookup_cons] at e1 e2
     by_cases hx : x = n
     ·by_cases hy : y = n
      ·rw [hx,hy]
      ·have q2 : (y == n) = false:=by simpa using hy
       rw [q2] at e2
       subst hx; simp at e1; subst e1
       rw [List.mem_singleton.mp a1] at a2
       exact absurd a2 (h5 _ (memOf e2))
     ·have q1 : (x == n) = false:=by simpa using hx
      rw [q1] at e1
      by_cases hy : y = n
      ·subst hy; simp at e2; subst e2
       rw [List.mem_singleton.mp a2] at a1
       exact absurd a1 (h5 _ (memOf e1))
      ·have q2 : (y == n) = false:=by simpa using hy
       rw [q2] at e2
       exact ih (by simpa using hl) x y b c a e1 e2 a1 a2
  have ndz : ((ns.zip vs).map (·.1)).Nodup:=by rw [fst]; exact hns
  have HH : Holds X (ns.zip bs) F (bindL env.kindOf (ns.zip vs) fun zz=>none) (lc ++ lD) h₁:={
   s:=H
   fz:=fun a o e=>by
    obtain ⟨e1,e2⟩:=std a o e
    refine ⟨keep _ _ e1,fun z => ?_,fun z => ?_⟩
    ·have:=old e1
     have z : a = L:=z
     rw [z] at this; exact Nat.lt_irrefl _ this
    ·rw [List.map_append,List.mem_append] at z
     refine z.elim (fun z => ?_) e2
     obtain ⟨p,hp,q⟩:=List.mem_map.mp z
     obtain ⟨n,_,_,e3⟩:=oflc p hp
     have:=old e1
     rw [← q] at this
     exact absurd this (Nat.lt_asymm e3)
   fn:=fun a o e => .inl e
   f0:=fun a o e=>e
   nm:=fun x b e=>by
    obtain ⟨v,e1,bo⟩:=argBind args hlen x b e
    refine ⟨v, ?_,bo⟩
    have hx : x ∈ ns:=by
     have : ∀ {ns : List Str} {vs : List Value},(ns.zip vs).lookup x = some v → x ∈ ns:=by
      intro ns vs e
      induction ns generalizing vs with
      | nil=>simp at e
      | cons n ns ih =>
       cases vs with
       | nil=>simp at e
       | cons u vs =>
        rw [List.zip_cons_cons,List.lookup_cons] at e
        by_cases hx : x = n
        ·subst hx; exact .head _
        ·have h1 : (x == n) = false:=by simpa using hx
         rw [h1] at e; exact .tail _ (ih e)
     exact this e1
    rcases hk x hx with q | ⟨q,q2⟩
    ·have kx : env.kindOf x = some .local:=q
     exact .inl ⟨kx,bindL_eq kx _ _ ndz e1⟩
    ·have kx : env.kindOf x = some .cell:=q
     obtain ⟨c,hc⟩:=Option.isSome_iff_exists.mp (q2 (L + 1))
     have hc : env.cells.lookup x = some c:=hc
     refine .inr ⟨c,oc x,kx,hc,.inl (List.mem_append_left _ (inlc x c hc)), ?_⟩
     have:=(hoc x c hc).2
     rwa [bindC_eq (by rw [kx]; exact fun z=>nomatch z) _ _ ndz e1] at this
   inj:=argInj args hlen
   cel:=fun x c e zz=>⟨oc x,_,List.mem_append_left _ (inlc x c e),(hoc x c e).2⟩
   pl:=hpl.to fun zz zz q zz=>List.mem_append_right _ q }
  have cnew : ∀ x c,X.env.cells.lookup x = some c → X.h₀.get? c = none:=fun x c e=>nC c (above x c (lookup_mem e))
  have go:=run X ok sc cnew rfl rfl rfl rfl rfl rfl rfl F _ _ h₁ HH
  refine wpAny_mono (go _ rfl (leT)) ?_ fun zz zz z=>z.elim
  rintro fl s' ⟨h',tk',_,hpk,q⟩
  have toRet : ∀ {v p Γ' F' m' l'},(∀ a o,F a o → F' a o) → Holds X Γ' F' m' l' h' → Rep prog w F' (fun zz zz=>False) v p → Q p Γ' → Ret prog w F s₀.heap (lD.map (·.1)) Q v h' ∧ ∀ q ∈ pl,∃ o,h'.get? q = some o ∧ IsPl o:=fun {v p Γ' F' m' l'} le HE r q =>
   ⟨⟨⟨p,Γ',F',le,fun a o e=>⟨(HE.fz a o e).1,fun z=>(HE.fz a o e).2.2 (HE.s.dl a z),HE.fn a o e⟩,r,q,fun x d C P e=>by
    obtain ⟨v,lk,y,od,rfl,h1,h2,h3,h4⟩:=HE.nm x _ e
    exact ⟨od,HE.s.led _ h2,h3,h4⟩,fun x a q e=>by
    obtain ⟨o,lk,h2,h3⟩:=HE.own e
    exact ⟨o,HE.s.led _ h2,h3,HE.s.own _ h2⟩⟩,HE.s.base⟩,fun q hq=>let ⟨o,h1,h2⟩:=HE.pl q hq; ⟨o,HE.s.led _ h1,h2⟩⟩
  cases fl with
  | next =>
   obtain ⟨Γ',F',m',l',le,HE,q⟩:=q
   exact ⟨_,_,_,_,hpk,toRet le HE .none q⟩
  | brk=>obtain ⟨Γ',F',m',l',le,HE,q⟩:=q; exact q.elim
  | cont=>obtain ⟨Γ',F',m',l',le,HE,q⟩:=q; exact q.elim
  | ret v =>
   obtain ⟨p,Γ',F',m',l',le,HE,r,q⟩:=q
   exact ⟨_,_,_,_,hpk,toRet le HE r q⟩
theorem fn_run {prog : Program} {w : World} {A : Around} {h : Heap} {K : Frag} {f : Addr} {fd : FuncData} {body : List Stmt} {vs : List Value} {ns : List Str} {bs : List Bind} {F : Store} {lD : List (Addr × Obj)} (rd : Nat) (Q : PV → Ctx → Prop) (fk : FnOkC K f fd body) (hh : A.handled = none) (room : A.depth + 21 + rd < recursionLimit) (units : A.units + 30 + 10 * rd < cLine)
  (G : ∀ h',Sub (lD.map (·.1)) h h' → Gr K h') (std : ∀ a o,F a o → h.get? a = some o ∧ a ∉ lD.map (·.1)) (hl : ∀ p ∈ lD,h.get? p.1 = some p.2) (nd : (lD.map (·.1)).Nodup)
  (hbind : bindArgs fd ⟨vs,[]⟩ = pure (ns.zip vs)) (hns : ns.Nodup) (hlen : ns.length = vs.length) (hkind : (ns.all fun x=>decide (fd.scope.names.lookup x = some .local) || (decide (fd.scope.names.lookup x = some .cell) && (cellNames fd.scope.names []).contains x)) = true)
  (args : Args prog w F lD vs bs)
  (run : ∀ X : Fm,FmOk X → Sc X fd.scope (cellNames fd.scope.names []) → (∀ x c,X.env.cells.lookup x = some c → X.h₀.get? c = none) → X.prog = prog → X.w = w → X.K = K → X.D = lD.map (·.1) → X.rd = rd → Ex X (ns.zip bs) body fun o=>match o with | .ret p Γ=>Q p Γ | .next Γ=>Q .none Γ | _=>False) :
  TCP prog w A (.call (.ref f) ⟨vs,[]⟩) h (Ret prog w F h (lD.map (·.1)) Q):=fun s₀ es hp₀=>by
 obtain ⟨o,ho,hd⟩:=fk.lk
 have G0:=G _ Sub.refl
 have fst : (ns.zip vs).map (·.1) = ns:=by rw [List.map_fst_zip]; omega
 refine codeAny_mono (fn_core (lo:=1) rd [] (fun q hq=>by cases hq) Q fk hh room units G std hl nd hbind hns hlen hkind args (fun X ok sc cn h1 h2 h3 h4 h5 zz zz=>run X ok sc cn h1 h2 h3 h4 h5) s₀ es fun R k => ?_) (by rintro r s' ⟨v,h',tk,gs,hp,q,_⟩; exact ⟨v,h',tk,gs,hp,q⟩)
 subst es
 refine call_cellsP (by omega) (G0.k _ _ ho) hd G0.nolimit (codeRec_of G0.k fk.cd) fk.body hbind fk.clo (fun x hx => ?_) (fun s₁ XC leT=>k s₁ XC (by obtain ⟨h₁,t₁,e⟩:=XC.toInCall.same; rw [e] at leT ⊢; exact hp₀.up leT)) fk.co fk.gen fk.kind
 have:=List.all_eq_true.mp hkind x.1 (by rw [← fst]; exact List.mem_map_of_mem hx)
 simp only [Bool.or_eq_true,Bool.and_eq_true,decide_eq_true_eq] at this
 refine this.imp id fun q=>⟨q.1,lookup_some_of_mem ?_⟩
 rw [cellsFrom_names]
 simpa using q.2
end Mine
end
section
namespace Mine
section
variable {X : Fm} {Γ Γ' Γc : Ctx} {F F' : Store} {m : Str → Option Value} {l : List (Addr × Obj)} {h h' : Heap} {Q : Out → Prop} {rest : List Stmt} {s : Scope} {cn : List Str}
inductive IsL : PV → List PV → Prop
 | list (xs : List PV) : IsL (.list xs) xs
 | rlist (xs : List PV) : IsL (.rlist xs) xs
theorem Holds.lst (ok : FmOk X) (H : Holds X Γ F m l h) {v : Value} {p : PV} {xs : List PV} (il : IsL p xs) (r : Rep X.prog X.w F (RS X l) v p) : ∃ a vs,v = .ref a ∧ h.IsList a (List.toArray vs) ∧ Reps X.prog X.w F (RS X l) vs xs:=by
 cases il with
 | list =>
  obtain ⟨_,_,_,rfl,h1,h2,h3⟩:=r.l
  exact ⟨_,_,rfl,h2.isList (H.fz _ _ h1).1,h3⟩
 | rlist=>cases r with | rlist h1 h2 h3=>exact ⟨_,_,rfl,h2.isList (H.rs ok h1),h3⟩
theorem E.callB {f : Str} {pf pos : Pos} {fv : Value} {es : List PySem.Expr} {ps : List PV} {r : PV} (ef : E X Γ (.Name f pf) (.raw fv)) (ea : EA X Γ es ps)
  (k : ∀ F m l h vs,Holds X Γ F m l h → Reps X.prog X.w F (RS X l) vs ps → Keeps X.prog X.w fv h ∧ TP X.prog X.w X.A (PySem.call fv vs) h (EP X Γ F m l r)) (hst : noStars es = true) :
  E X Γ (.Call (.Name f pf) es [] pos) r:=fun F m l h H=>call_T ef ea H (fun F₁ h₁ vs le₁ H₁ rs=>⟨(k F₁ m l h₁ vs H₁ rs).1,(k F₁ m l h₁ vs H₁ rs).2.mono fun v h₂ ⟨F₂,le₂,H₂,r₂⟩=>⟨F₂,fun a o e=>le₂ a o (le₁ a o e),H₂,r₂⟩⟩) hst
theorem E.len (ok : FmOk X) {f : Str} {pf pos : Pos} {e : PySem.Expr} {p : PV} {xs : List PV} (ef : E X Γ (.Name f pf) (.raw (.builtin "len"))) (ee : E X Γ e p) (il : IsL p xs) (hz : xs.length < 2 ^ 62) (hst : noStars [e] = true) : E X Γ (.Call (.Name f pf) [e] [] pos) (.int xs.length) :=
 E.callB ef (.cons ee .nil) (fun F m l h vs H rs=>⟨Keeps.builtin,by
  obtain ⟨_,rfl,r1⟩:=rs.one
  obtain ⟨a,us,rfl,hl,rs⟩:=H.lst ok il r1
  have:=rs.length
  refine TP.of (t_len hl (by omega) fun t=>⟨F,fun zz zz e=>e,H, ?_⟩)
  rw [this]; exact .int _ t⟩) hst
theorem E.sum (ok : FmOk X) {f : Str} {pf pos : Pos} {e : PySem.Expr} {p : PV} {ns : List Int} (ef : E X Γ (.Name f pf) (.raw (.builtin "sum"))) (ee : E X Γ e p) (il : IsL p (ns.map .int)) (hst : noStars [e] = true) : E X Γ (.Call (.Name f pf) [e] [] pos) (.int ns.sum) :=
 E.callB ef (.cons ee .nil) (fun F m l h vs H rs=>⟨Keeps.builtin,by
  ·obtain ⟨_,rfl,r1⟩:=rs.one
   obtain ⟨a,us,rfl,hl,rs⟩:=H.lst ok il r1
   refine TP.of fun s es => ?_
   subst es
   refine LSm.sum_ints (frAll H.s.ns) newsAll ok.hh hl rs.toInts fun h' tk t' F' N'=>⟨h',tk,F,fun zz zz e=>e, ?_,.int _ t'⟩
   have sb:=sub_of_news (extra:=[]) N'
   refine { s:=H.s.frame sb F'.ns,fz:=fun a o e=>⟨sb _ _ (by simpa using (H.fz a o e).2.1) (H.fz a o e).1,(H.fz a o e).2⟩,fn:=H.fn,f0:=H.f0,nm:=H.nm,inj:=H.inj,cel:=H.cel,pl:=H.pl }⟩) hst
theorem EA.length {es : List PySem.Expr} {ps : List PV} (x : EA X Γ es ps) : es.length = ps.length:=by
 induction x with
 | nil=>rfl
 | cons _ _ ih=>simp [ih]
theorem N.disp (ok : FmOk X) {es : List PySem.Expr} {pos : Pos} {ps : List PV} (ea : EA X Γ es ps) (hst : noStars es = true) (hz : es.length ≤ 1000) : N X Γ (.List es pos) (.list ps):=fun F m l h H =>
 p_List ((ea.t H).mono fun vs h₁ ⟨F₁,le₁,H₁,r₁⟩=>by
  have e1:=r₁.length
  have e2:=ea.length
  exact ⟨by rw [sizeLine_eq]; omega,fun a h' o sb n g lt=>⟨F₁,a,o,le₁,H₁.sub sb,rfl,g,H₁.fresh n,.list lt r₁⟩⟩) hst
theorem E.tup (ok : FmOk X) {es : List PySem.Expr} {k : Nat} {pos : Pos} {ps : List PV} (ea : EA X Γ es ps) (hst : noStars es = true) (hz : es.length ≤ 1000) : E X Γ (.Tuple es k pos) (.tup ps):=fun F m l h H =>
 p_Tuple ((ea.t H).mono fun vs h₁ ⟨F₁,le₁,H₁,r₁⟩=>by
  have e1:=r₁.length
  have e2:=ea.length
  refine ⟨by rw [sizeLine_eq]; omega,fun a h' o sb n g lt=>⟨F₁.add a o,fun a o e => .inl (le₁ a o e),H₁.freeze sb n g,.tup (.inr ⟨rfl,rfl⟩) lt (r₁.mono (fun zz zz e => .inl e) fun zz zz e=>e)⟩⟩) hst
theorem N.cat (ok : FmOk X) {a b : PySem.Expr} {pos : Pos} {p q : PV} {xs ys : List PV} (ea : E X Γ a p) (eb : E X Γ b q) (ip : IsL p xs) (iq : IsL q ys) (hz : xs.length + ys.length ≤ 1000000) : N X Γ (.BinOp a .Add b pos) (.list (xs ++ ys)):=fun F m l h H =>
 TP.BinOp (E.go ea H fun F₁ u h₁ le₁ H₁ r₁=>E.go eb H₁ fun F₂ v h₂ le₂ H₂ r₂=>by
  obtain ⟨a,us,rfl,hl,rs⟩:=H₂.lst ok ip (r₁.mono le₂ fun zz zz e=>e)
  obtain ⟨b,ws,rfl,hl',rs'⟩:=H₂.lst ok iq r₂
  have e1:=rs.length
  have e2:=rs'.length
  exact TP.of (t_addLists hl hl' (by rw [sizeLine_eq]; omega) fun r h' ob sb n g lt=>⟨F₂,r,ob,fun a o e=>le₂ a o (le₁ a o e),H₂.sub sb,rfl,g,H₂.fresh n,.list lt (rs.append rs')⟩))
theorem E.subL (ok : FmOk X) {value idx : PySem.Expr} {pos : Pos} {p x : PV} {xs : List PV} {i : Int} (ev : E X Γ value p) (ei : E X Γ idx (.int i)) (il : IsL p xs) (h0 : 0 ≤ i) (hz : i < 2 ^ 62) (hx : xs[i.toNat]? = some x) (hsub : ∀ o i,subscripted idx false o i = operate [o,i] (getItem o i):=by intro _ _; rfl) : E X Γ (.Subscript value idx pos) x:=fun F m l h H =>
 p_SubListG (E.go ev H fun F₁ u h₁ le₁ H₁ r₁=>E.go ei H₁ fun F₂ v h₂ le₂ H₂ r₂=>by
  obtain ⟨a,us,rfl,hl,rs⟩:=H₂.lst ok il (r₁.mono le₂ fun zz zz e=>e)
  ·obtain ⟨t,rfl⟩:=r₂.i
   obtain ⟨w,hw,rw⟩:=rs.get hx
   exact ⟨a,us,i,t,w,rfl,rfl,hl,h0,by omega,hw,F₂,fun a o e=>le₂ a o (le₁ a o e),H₂,rw⟩) hsub
theorem E.mulII {a b : PySem.Expr} {pos : Pos} {i j : Int} (ea : E X Γ a (.int i)) (eb : E X Γ b (.int j)) (hm : IntMulOk i j) : E X Γ (.BinOp a .Mult b pos) (.int (i * j)):=E.bin ea eb fun F m l h u v H ru rv=>by
 obtain ⟨t₁,rfl⟩:=ru.i; obtain ⟨t₂,rfl⟩:=rv.i; exact TP.of fun s es=>by
  subst es
  exact PyProof.Rows.mul_int ⟨_,_,F,fun zz zz e=>e,H,.int _ _⟩ hm
noncomputable def PureFn (prog : Program) (w : World) (K : Frag) (rd : Nat) (f : Addr) (ps : List PV) (r : PV) : Prop := ∀ {A : Around} {h : Heap} {F : Store} {vs : List Value},A.handled = none → A.depth + 21 + rd < recursionLimit → A.units + 30 + 10 * rd < cLine → Gr K h → (∀ a o,F a o → h.get? a = some o) →
 Args prog w F [] vs (ps.map .fz) → TCP prog w A (.call (.ref f) ⟨vs,[]⟩) h (Ret prog w F h [] fun p zz=>p = r)
theorem Reps.args {vs : List Value} {ps : List PV} {R : Store} {lD : List (Addr × Obj)} (r : Reps X.prog X.w F R vs ps) (s : Safes ps) : Args X.prog X.w F lD vs (ps.map .fz):=by
 induction vs generalizing ps with
 | nil=>cases r; exact .nil
 | cons v vs ih =>
  cases ps with
  | nil=>cases r
  | cons x xs=>exact .fz (r.c.1.safe s.1) (ih r.c.2 s.2)
theorem Holds.after (H : Holds X Γ F m l h) (le : ∀ a o,F a o → F' a o) (h1 : ∀ a o,F' a o → h'.get? a = some o ∧ (F a o ∨ h.get? a = none)) (sb : Sub [] h h') : Holds X Γ F' m l h' :=
 (H.sub sb).grow le (fun a o e=>by
  obtain ⟨e1,e2⟩:=h1 a o e
  refine ⟨e1, ?_⟩
  rcases e2 with e2 | e2
  ·exact (H.fz a o e2).2
  ·exact (H.s.fresh e2).2) fun a o e=>by
  rcases (h1 a o e).2 with e2 | e2
  ·exact H.fn a o e2
  ·exact .inr (H.s.fresh e2).1
theorem E.callF (ok : FmOk X) {f : Str} {pf pos : Pos} {fa : Addr} {rd : Nat} {es : List PySem.Expr} {ps : List PV} {r : PV} (ef : E X Γ (.Name f pf) (.raw (.ref fa))) (ea : EA X Γ es ps) (hs : Safes ps) (hk : keepIn X.K (.ref fa) = true) (hrd : rd + 1 ≤ X.rd) (pfn : PureFn X.prog X.w X.K rd fa ps r) (hst : noStars es = true) : E X Γ (.Call (.Name f pf) es [] pos) r :=
 E.callB ef ea (fun F m l h vs H rs=>⟨Keeps.frag (H.gr ok).k hk,by
  have r1:=ok.room
  have r2:=ok.units
  refine TP.call ((pfn ok.hh (by omega) (by omega) (H.gr ok) (fun a o e=>(H.fz a o e).1) (rs.args hs)).mono ?_)
  rintro v h' ⟨⟨p,Γ',F',le,h1,h2,rfl,_⟩,sb⟩
  exact ⟨F',le,H.after le (fun a o e=>⟨(h1 a o e).1,(h1 a o e).2.2⟩) sb,h2.mono (fun zz zz e=>e) fun zz zz e=>e.elim⟩⟩) hst
end
end Mine
end
section
namespace Mine
section
variable {X : Fm} {Γ Γ' Γc : Ctx} {F F' : Store} {m : Str → Option Value} {l : List (Addr × Obj)} {h h' : Heap} {Q : Out → Prop} {rest ss : List Stmt} {s : Scope} {cn : List Str}
end
end Mine
end
section
namespace Mine
section
variable {prog : Program} {w : World} {A : Around} {h h' h₀ h₁ : Heap} {env : Env} {D : List Addr} {m : Str → Option Value} {l : List (Addr × Obj)}
theorem p_part0 {Q : Value → Heap → Prop} (q : Q .none h) : TP prog w A (evalPart none env) h Q:=TP.of (t_part0 q)
theorem p_part1 {e : PySem.Expr} {Q : Value → Heap → Prop} (t : TP prog w A (eval e env) h Q) : TP prog w A (evalPart (some e) env) h Q:=t
theorem p_SliceG {value : PySem.Expr} {lower upper : Option PySem.Expr} {p pos : Pos} {Q : Value → Heap → Prop}
  (x : TP prog w A (eval value env) h fun o h₁=>TP prog w A (evalPart lower env) h₁ fun vl h₂=>TP prog w A (evalPart upper env) h₂ fun vu h₃ => ∃ a vs lo hi,o = .ref a ∧ h₃.IsList a (List.toArray vs) ∧ vs.length ≤ sizeLine ∧ IsPart vl lo ∧ IsPart vu hi ∧ ∀ r h' ob,Sub [] h₃ h' → h₃.get? r = none → h'.get? r = some ob → IsLst ob (slicePick vs.toArray lo hi none).toList → Q (.ref r) h') :
  TP prog w A (eval (.Subscript value (.Slice lower upper none p) pos) env) h Q:=fun s es hp=>by
 rw [eval_Subscript]
 refine wpAny_bind (TPL.el x es hp ?_)
 rintro o h₁ t₁ _ hp y
 refine wpAny_bind (wpAny_holding (wpAny_Slice (TP.nx y hp ?_)))
 rintro vl h₂ t₂ _ hp y
 refine TP.nx y hp ?_
 rintro vu h₃ t₃ gs₃ hp ⟨a,vs,lo,hi,rfl,hl,hz,p1,p2,q⟩
 rw [evalPart_none]
 refine wpAny_pure (wpAny_bind (wpAny_standAt ?_))
 have hT : (⟨h₃.push { cls := .type "slice",data := .fields #[vl,vu,.none] },gs₃.1,gs₃.2,t₃,s.os⟩ : Shared).TypeIs (.ref a) "list" := (hl.push _).typeIs
 have got : wpAny (model prog w) A (getItem (.ref a) (.ref h₃.objs.size)) (Po s Q) (fun zz zz=>False) ⟨h₃.push { cls := .type "slice",data := .fields #[vl,vu,.none] },gs₃.1,gs₃.2,t₃,s.os⟩:=by
  refine wpAny_getItem_list_slice (hl.push _) (Heap.IsSliceOf.new ..) p1 p2 .none (by walk_at "ms") ?_ (by simpa using hz)
  rw [Heap.size_push]
  refine ⟨_,t₃,_,hp,q _ _ _ (fun b o zz eb=>Heap.get?_push_of_some _ (Heap.get?_push_of_some _ eb)) ?_ ?_ ⟨0,by rw [Array.toArray_toList]⟩⟩
  ·cases e : h₃.get? (h₃.objs.size + 1) with
   | none=>rfl
   | some o=>exact absurd (Heap.lt_size e) (Nat.not_lt.mpr (Nat.le_succ _))
  ·have:=get_push_self (h₃.push { cls := .type "slice",data := .fields #[vl,vu,.none] }) { cls := .type "list",data := .seq (slicePick vs.toArray lo hi none) }
   rwa [Heap.size_push] at this
 have fin : wpAny (model prog w) A (operate [.ref h₃.objs.size,.ref a] (getItem (.ref a) (.ref h₃.objs.size))) (fun r s₃=>wpAny (model prog w) A (letTemporaryGo value (.ref a) r >>= fun zz=>pure r) (Po s Q) (fun zz zz=>False) s₃) (fun zz zz=>False) ⟨h₃.push { cls := .type "slice",data := .fields #[vl,vu,.none] },gs₃.1,gs₃.2,t₃,s.os⟩ :=
  wpAny_operating (wpAny_mono got (fun r s₃ h₃=>wpAny_bind (wpAny_letTemporaryGo (wpAny_pure h₃))) fun zz zz x=>x)
 refine wpAny_bind ?_
 rw [getitemInPython_of_ne hT.not_modules]
 refine wpAny_bind (wpAny_specialOf hT PySem.F.slot_list_getitem.lookup ?_)
 exact wpAny_pure (wpAny_bind fin)
end
theorem mulL {a b : Int} (h1 : -100000000 < a) (h2 : a < 100000000) : IntMulOk a b := .of_left (intBits_le_64 (by omega) (by omega))
section
variable {X : Fm} {Γ Γ' Γc : Ctx} {F F' : Store} {m : Str → Option Value} {l : List (Addr × Obj)} {h h' : Heap} {Q : Out → Prop} {rest ss body orelse : List Stmt} {s : Scope} {cn : List Str}
theorem B.plain {e : PySem.Expr} {b : Bool} (ee : E X Γ e (.bool b)) (he : ∀ whole,isTrue e X.env whole = (do let v ← whole; PySem.standAt e.pos; PySem.holding [v] (truthy v)):=by intro _; rfl) : B X Γ e b:=fun F m l h H =>
 p_isTrue_plain (E.go ee H fun F₁ v h₁ le₁ H₁ r₁=>by
  obtain rfl:=r₁.b
  exact TP.of (T.truthy_bool ⟨F₁,le₁,H₁,rfl⟩)) (he _)
theorem It.num {X : Fm} {Γ : Ctx} {iter target : PySem.Expr} {n n' : Nat} {P : Nat → PV} (e : n = n') (x : It X Γ iter target n P) : It X Γ iter target n' P:=e ▸ x
end
end Mine
end
section
namespace Mine
section
variable {prog : Program} {w : World} {A : Around} {h h' h₀ : Heap} {env : Env} {D : List Addr} {m : Str → Option Value} {l : List (Addr × Obj)}
theorem t_min2 {a b : Int} {t u : Tok} {Q : Value → Heap → Prop} (hh : A.handled = none) (q : ∀ h' v,Sub [] h h' → (∃ t,v = .int (min a b) t) → Q v h') : T prog w A (call (.builtin "min") [.int a t,.int b u]) h Q:=fun s es=>by
 subst es
 refine min_two_ints hh fun h' tk hk=>⟨h',tk,q h' _ (fun b o zz e=>hk b o e) ?_⟩
 split
 ·exact ⟨u,by rw [Int.min_eq_right (by omega)]⟩
 ·exact ⟨t,by rw [Int.min_eq_left (by omega)]⟩
end
section
variable {X : Fm} {Γ Γ' Γc : Ctx} {F F' : Store} {m : Str → Option Value} {l : List (Addr × Obj)} {h h' : Heap} {Q : Out → Prop} {rest body orelse : List Stmt} {s : Scope} {cn : List Str}
theorem E.min2 (ok : FmOk X) {f : Str} {pf pos : Pos} {a b : PySem.Expr} {i j : Int} (ef : E X Γ (.Name f pf) (.raw (.builtin "min"))) (ea : E X Γ a (.int i)) (eb : E X Γ b (.int j)) (hst : noStars [a,b] = true) : E X Γ (.Call (.Name f pf) [a,b] [] pos) (.int (min i j)) :=
 E.callB ef (.cons ea (.cons eb .nil)) (fun F m l h vs H rs=>⟨Keeps.builtin,by
  obtain ⟨_,_,rfl,r1,r2⟩:=rs.two
  obtain ⟨t,rfl⟩:=r1.i
  obtain ⟨u,rfl⟩:=r2.i
  exact TP.of (t_min2 ok.hh fun h' v sb hv=>by
   obtain ⟨t3,rfl⟩:=hv
   exact ⟨F,fun zz zz e=>e,H.sub sb,.int _ t3⟩)⟩) hst
end
end Mine
end
section
namespace Mine
section
variable {X : Fm} {Γ Γ' Γc : Ctx} {F F' : Store} {m : Str → Option Value} {l : List (Addr × Obj)} {h h' : Heap} {Q : Out → Prop} {rest body orelse : List Stmt} {s : Scope} {cn : List Str}
theorem N.from (ok : FmOk X) {value ea : PySem.Expr} {p pos : Pos} {pv : PV} {ns : List Int} {a : Nat} (ev : E X Γ value pv) (e2 : E X Γ ea (.int a)) (il : IsL pv (ns.map .int)) (hz : ns.length ≤ 1000000) : N X Γ (.Subscript value (.Slice (some ea) none none p) pos) (.list ((ns.drop a).map .int)):=fun F m l h H =>
 p_SliceG (E.go ev H fun F₁ o h₁ le₁ H₁ r₁=>p_part1 (E.go e2 H₁ fun F₃ vu h₃ le₃ H₃ r₃=>p_part0 (by
  obtain ⟨ad,vs,rfl,hl,rs⟩:=H₃.lst ok il (r₁.mono le₃ fun zz zz e=>e)
  obtain ⟨u,rfl⟩:=r₃.i
  have len:=rs.length
  rw [List.length_map] at len
  refine ⟨ad,vs,some (a : Int),none,rfl,hl,by rw [sizeLine_eq]; omega,.int _ _,.none,fun r h' ob sb n g lt=>⟨F₃,r,ob,fun a o e=>le₃ a o (le₁ a o e),H₃.sub sb,rfl,g,H₃.fresh n,.list lt ?_⟩⟩
  exact Reps.ints (slice_ints_fromW rs.toInts (Int.natCast_nonneg a)))))
end
end Mine
end
section
namespace Mine
end Mine
end
section
namespace Mine
section
variable {X : Fm} {Γ Γ' Γc : Ctx} {F F' : Store} {m : Str → Option Value} {l : List (Addr × Obj)} {h h' : Heap} {Q : Out → Prop} {rest body orelse : List Stmt} {s : Scope} {cn : List Str}
end
end Mine
end
section
namespace Mine
section
variable {X : Fm} {Γ : Ctx}
end
end Mine
end
section
namespace Mine
noncomputable abbrev noF : Store:=fun zz zz=>False
structure Kd (prog : Program) (w : World) (K : Type) [DecidableEq K] where
 knd : KeyKind prog w K
 pv : K → PV
 rep : ∀ {F R : Store} {v : Value} {k : K},Rep prog w F R v (pv k) → knd.is k v = true ∧ v.scannable = true ∧ (keyPart v).isSome = true
 sc : ∀ k v u,knd.is k v = true → knd.is k u = true → u.scannable = v.scannable
section
variable {prog : Program} {w : World}
noncomputable def InstAt (prog : Program) (w : World) (am : Str → Option PV) : Store → Addr → Obj → Prop:=fun F a o => ∃ d od amv,o = instObj aSM d ∧ F d od ∧ IsAttrs attrN od amv ∧ ∀ x p,am x = some p → ∃ v,amv x = some v ∧ handedIn v = true ∧ Rep prog w F noF v p
noncomputable def KSet {K : Type} [DecidableEq K] (knd : KeyKind prog w K) (js : List K) : Store → Addr → Obj → Prop:=fun F a o=>js.Nodup ∧ js.length < scanBound ∧ ∀ h : Heap,h.get? a = some o → h.SetOf knd a (fun k=>decide (k ∈ js)) js.length
noncomputable def DVal (prog : Program) (w : World) (F : Store) : Option Value → Option PV → Prop
 | none,none=>True
 | some v,some p=>Rep prog w F noF v p
 | _,_=>False
noncomputable def DicP {K : Type} [DecidableEq K] (knd : KeyKind prog w K) (n : Nat) (f : K → Option PV) : Store → Addr → Obj → Prop:=fun F a o => ∃ kvs,IsDicK knd o kvs ∧ kvs.length ≤ n ∧ ∀ k,DVal prog w F (valueAt kvs k) (f k)
noncomputable def KDic {K : Type} [DecidableEq K] (knd : KeyKind prog w K) (n : Nat) (f : K → Option PV) : Store → Addr → Obj → Prop:=fun F a o=>(a == sysModules) = false ∧ DicP knd n f F a o
theorem DVal.up {F F' : Store} (hF : ∀ a o,F a o → ¬ NoVal o → F' a o) : ∀ {v : Option Value} {p : Option PV},DVal prog w F v p → DVal prog w F' v p
 | none,none,_=>trivial
 | some v,some p,x=>Rep.monoV hF x
 | none,some _,x=>x.elim
 | some _,none,x=>x.elim
end
section
variable {X : Fm} {Γ Γ' : Ctx} {F F' : Store} {m : Str → Option Value} {l : List (Addr × Obj)} {h h' : Heap} {Q : Out → Prop} {rest : List Stmt} {K : Type} [DecidableEq K]
theorem Rep.ofNo {v : Value} {p : PV} {R : Store} (r : Rep X.prog X.w F noF v p) : Rep X.prog X.w F R v p:=r.mono (fun zz zz e=>e) fun zz zz e=>e.elim
theorem Holds.at (H : Holds X Γ F m l h) {a : Addr} {o : Obj} (e : F a o) : h.get? a = some o:=(H.fz a o e).1
theorem E.attr (ok : FmOk X) (hK : X.K = frag X.w.params) {e : PySem.Expr} {name : Str} {pos : Pos} {am : Str → Option PV} {p : PV} (ee : E X Γ e (.obj (InstAt X.prog X.w am))) (hp : am name = some p) (hn : name ∈ attrN) (he : eval (.Attribute e name pos) X.env = (do
   let ov ← eval e X.env
   PySem.standAt pos.atName
   let r ← PySem.holding [ov] (getAttr ov name true)
   letTemporaryGo e ov r
   Pure.pure r):=by with_unfolding_all rfl) : E X Γ (.Attribute e name pos) p:=fun F m l h H =>
 TP.Attribute (he:=he) (E.go ee H fun F₁ v h₁ le₁ H₁ r₁=>by
  obtain ⟨a,o,rfl,f1,⟨d,od,amv,rfl,f2,ia,hv⟩,_⟩:=r₁.o
  obtain ⟨u,h1,h2,h3⟩:=hv name p hp
  have G:=(hK ▸ H₁.gr ok : Gr (frag X.w.params) h₁)
  exact TP.of (T.getAttr (plainSM X.w.params) G.k ⟨H₁.at f1,H₁.at f2⟩ ia h1 (attrFind _ hn) h2 ⟨F₁,le₁,H₁,h3.ofNo⟩))
theorem Cmp.isNotNone : Cmp X .IsNot .none .none false:=fun Γ F m l h u u' H ru ru'=>by
 rw [ru.n,ru'.n]
 refine TP.of fun s es => ?_
 subst es
 exact wpAny_isNot_self rfl ⟨s.heap,s.toks,F,fun zz zz e=>e,H,.bool _⟩
theorem Cmp.neSet (ok : FmOk X) {knd : KeyKind X.prog X.w K} {js js' : List K} {c : Bool} (hc : c = true ↔ ∀ k,k ∈ js ↔ k ∈ js') : Cmp X .NotEq (.obj (KSet knd js)) (.obj (KSet knd js')) (!c):=fun Γ F m l h u v H ru rv=>by
 obtain ⟨a,o,rfl,f1,⟨n1,_,s1⟩,_⟩:=ru.o
 obtain ⟨b,o',rfl,f2,⟨n2,_,s2⟩,_⟩:=rv.o
 refine TP.of (t_setNe (s1 h (H.at f1)) (s2 h (H.at f2)) (by have:=ok.units; omega) ?_ (.here H (.bool _)))
 rw [hc]
 constructor
 ·intro z
  have p : js.Perm js':=perm_sub n2 (fun x hx=>(z x).mpr hx) (by
   have : js'.Perm js:=perm_sub n1 (fun x hx=>(z x).mp hx) (by
    refine Nat.le_of_not_lt fun q => ?_
    have sub : ∀ {a b : List K},a.Nodup → (∀ x ∈ a,x ∈ b) → a.length ≤ b.length:=by
     intro a
     induction a with
     | nil=>intro b _ _; exact Nat.zero_le _
     | cons y a ih =>
      intro b nd hs
      rw [List.nodup_cons] at nd
      have hy:=hs y (.head _)
      have:=ih (b:=b.erase y) nd.2 fun x hx=>(List.mem_erase_of_ne (by rintro rfl; exact nd.1 hx)).mpr (hs x (.tail _ hx))
      rw [List.length_erase_of_mem hy] at this
      have : 0 < b.length:=List.length_pos_of_mem hy
      simp only [List.length_cons]; omega
    have:=sub n2 fun x hx=>(z x).mpr hx
    omega)
   rw [this.length_eq]; exact Nat.le_refl _)
  exact ⟨p.length_eq,fun k hk=>by simpa using (z k).mp (by simpa using hk)⟩
 ·rintro ⟨z1,z2⟩
  have p : js'.Perm js:=perm_sub n1 (fun x hx=>by simpa using z2 x (by simpa using hx)) (by omega)
  exact fun k=>p.mem_iff.symm
theorem DVal.some {v : Option Value} {p : PV} (x : DVal X.prog X.w F v (some p)) : ∃ u,v = some u ∧ Rep X.prog X.w F noF u p:=by
 cases v with
 | none=>exact x.elim
 | some u=>exact ⟨u,rfl,x⟩
theorem DVal.isSome {v : Option Value} {p : Option PV} (x : DVal X.prog X.w F v p) : v.isSome = p.isSome:=by
 cases v <;> cases p <;> first | rfl | exact x.elim
theorem p_SubDictK {prog : Program} {w : World} {A : Around} {env : Env} {h : Heap} {knd : KeyKind prog w K} {value idx : PySem.Expr} {pos : Pos} {Q : Value → Heap → Prop}
  (t : TP prog w A (eval value env) h fun o h₁=>TP prog w A (eval idx env) h₁ fun i h₂ => ∃ a ob kvs k x,o = .ref a ∧ knd.is k i = true ∧ h₂.get? a = some ob ∧ IsDicK knd ob kvs ∧ valueAt kvs k = some x ∧ Q x h₂)
  (hsub : ∀ o i,subscripted idx false o i = operate [o,i] (getItem o i):=by intro _ _; rfl) : TP prog w A (eval (.Subscript value idx pos) env) h Q:=fun s es hp=>by
 rw [eval_Subscript]
 refine wpAny_bind (wpAny_mono (t s es hp) (fun o s₁ h₁ => ?_) fun zz zz x=>x)
 obtain ⟨g₁,t₁,gs₁,hp,h₁⟩:=h₁
 refine wpAny_bind (wpAny_holding (wpAny_mono (h₁ _ rfl hp) (fun i s₂ h₂=>wpAny_bind (wpAny_standAt ?_)) fun zz zz x=>x))
 obtain ⟨g₂,t₂,gs₂,hp,a,ob,kvs,k,x,rfl,hk,ho,hd,hx,q⟩:=h₂
 have hD : (⟨g₂,gs₂.1,gs₂.2,t₂,s.os⟩ : Shared).heap.DictOf knd a kvs:=dicOfK ho hd
 have hT : (⟨g₂,gs₂.1,gs₂.2,t₂,s.os⟩ : Shared).TypeIs (.ref a) "dict" := hD.typeIs
 refine wpAny_bind ?_
 rw [getitemInPython_of_ne hT.not_modules]
 refine wpAny_bind (wpAny_specialOf hT PySem.F.slot_dict_getitem.lookup ?_)
 have fin : wpAny (model prog w) A (operate [.ref a,i] (getItem (.ref a) i)) (fun r s₃=>wpAny (model prog w) A (letTemporaryGo value (.ref a) r >>= fun zz=>pure r) (Po s Q) (fun zz zz=>False) s₃) (fun zz zz=>False) ⟨g₂,gs₂.1,gs₂.2,t₂,s.os⟩ :=
  wpAny_operating (wpAny_getItem_of hk hD.mapOf hx (wpAny_bind (wpAny_letTemporaryGo (wpAny_pure ⟨_,_,gs₂,hp.up (Nat.le_succ _),q⟩))))
 have fin':=wpAny_bind fin
 rw [← hsub] at fin'
 exact wpAny_pure fin'
theorem E.subD (kd : Kd X.prog X.w K) {value idx : PySem.Expr} {pos : Pos} {k : K} {n : Nat} {f : K → Option PV} {p : PV} (ev : E X Γ value (.obj (KDic kd.knd n f))) (ei : E X Γ idx (kd.pv k)) (hp : f k = some p) (hsub : ∀ o i,subscripted idx false o i = operate [o,i] (getItem o i):=by intro _ _; rfl) : E X Γ (.Subscript value idx pos) p:=fun F m l h H =>
 p_SubDictK (knd:=kd.knd) (E.go ev H fun F₁ v h₁ le₁ H₁ r₁=>E.go ei H₁ fun F₂ i h₂ le₂ H₂ r₂=>by
  have r₁':=r₁.mono le₂ fun zz zz e=>e
  obtain ⟨a,o,rfl,f1,⟨lo,kvs,hd,_,hf⟩,_⟩:=r₁'.o
  have hk:=hf k
  rw [hp] at hk
  obtain ⟨u,hu,ru⟩:=hk.some
  exact ⟨a,o,kvs,k,u,rfl,(kd.rep r₂).1,H₂.at f1,hd,hu,F₂,fun a o e=>le₂ a o (le₁ a o e),H₂,ru.ofNo⟩) hsub
set_option tactic.hygienic true in
theorem valueAt_stored' {kvs : List (K × Value)} {k j : K} {v : Value} : valueAt (stored kvs k v) j = if j = k then some v else valueAt kvs j:=by
 unfold stored
 split
 ·rename_i ha
  unfold valueAt
  rw [List.find?_map]
  have ep : ((fun kv : K × Value=>decide (kv.1 = j)) ∘ fun kv=>if kv.1 = k then (kv.1,v) else kv) = fun kv=>decide (kv.1 = j):=by
   funext kv; simp only [Function.comp]; split <;> rfl
  rw [ep]
  cases hf : kvs.find? (fun kv=>decide (kv.1 = j)) with
  | none =>
   have : j ≠ k:=fun q=>by
    obtain ⟨x,hx,hk⟩:=List.any_eq_true.mp ha
    have:=List.find?_eq_none.mp hf x hx
    rw [q] at this
    exact this hk
   simp [this]
  | some x =>
   have hx : x.1 = j:=by simpa using List.find?_some hf
   by_cases e : j = k
   ·simp [hx,e]
   ·simp [hx,e]
 ·rename_i ha
  refine valueAt_snocK ?_
  unfold valueAt
  cases hf : kvs.find? (fun kv=>decide (kv.1 = k)) with
  | none=>rfl
  | some x=>exact absurd (List.any_eq_true.mpr ⟨x,List.mem_of_find?_eq_some hf,List.find?_some hf⟩) ha
end
end Mine
end
section
namespace Mine
section
variable {prog : Program} {w : World} {A : Around} {h h' : Heap} {env : Env}
theorem t_lambda {c P : Addr} {params : Arguments} {body : PySem.Expr} {scope : Scope} {pos : Pos} {clos : List (Str × Addr)} {bm : Addr} {obm : Obj} {Q : Value → Heap → Prop} (G : Gr (frag w.params) h) (hdef : defaultsOf params env = ([],[])) (hcl : closureFor scope env = pure clos) (hge0 : env.globals = mainGlobals) (hcode : env.code = .ref c) (C : CodeHd h c P) (hP : h.get? P = some (tabObj #[])) (hgP : mainGlobals ≠ P)
  (hbm : nsIn (frag w.params) mainGlobals (ofString "__builtins__") = some (some (.ref bm))) (n1 : bm ≠ builtinsNs) (n2 : bm ≠ mainGlobals) (n3 : bm ≠ P) (hob : h.get? bm = some obm) (b1 : obm.cls = .type "module") (b2 : obm.dict = some builtinsNs) (b3 : obm.data = .plain)
  (q : ∀ h' f c' ctv pm oc vs t,(∀ b o,b ≠ P → h.get? b = some o → h'.get? b = some o) → h.get? f = none → h.get? c' = none → c' ≠ f → h'.get? f = some (kla_obj "<lambda>" (env.qual ++ "<lambda>") params body scope clos pm c' ctv) → h'.get? c' = some oc → oc.data = .fields vs → vs[1]? = some (.str (env.qual ++ "<lambda>") t) → h'.get? P = some (tabObj #[rawInt pos.line,rawInt pos.col,.ref c']) → Q (.ref f) h') :
  T prog w A (eval (.Lambda params body scope pos) env) h Q:=fun s es=>by
 subst es
 obtain ⟨mg,hmg⟩:=G.g
 have hbi : mg (ofString "__builtins__") = some (.ref bm):=mg_of G.k hmg hbm
 refine kla_eval hdef (kla_makeFunction hcl hge0 hmg hcode C hP trivial rfl hgP ⟨bm,obm,hbi,n1,n2,n3,hob,b1,b2,b3⟩ fun c' ctv h₁ tk hx hge hlt hrec htb=>⟨_,tk, ?_⟩)
 obtain ⟨c₂,oc,vs,t,e2,hoc,hd,hv⟩:=hrec
 cases e2
 have none1 : ∀ a,s.heap.objs.size ≤ a → s.heap.get? a = none:=fun a ha=>by
  cases e : s.heap.get? a with
  | none=>rfl
  | some o=>exact absurd (Heap.lt_size e) (Nat.not_lt.mpr ha)
 refine q _ h₁.objs.size c' ctv _ oc vs t (fun b o n e=>Heap.get?_push_of_some _ (hx b o n e)) (none1 _ (by omega)) (none1 _ hge) (by omega) (Heap.get?_push_size _ rfl) (Heap.get?_push_of_some _ hoc) hd hv (Heap.get?_push_of_some _ ?_)
 exact htb
end
end Mine
end
section
namespace Mine
section
variable {prog : Program} {w : World} {A : Around} {h h' h₀ : Heap} {K : Type} [DecidableEq K] {knd : KeyKind prog w K}
theorem Keeps.func {a : Addr} {ob : Obj} {fd : FuncData} (ho : h.get? a = some ob) (hd : ob.data = .func fd) : Keeps prog w (.ref a) h:=by
 refine ⟨_,.inl rfl, ?_⟩
 obtain ⟨c,d,dt,sl⟩:=ob
 cases hd
 exact (Looks.ld (part:=none) ho).andThen .now
theorem t_NameFree {env : Env} {x : Str} {pos : Pos} {c : Addr} {o : Obj} {v : Value} {Q : Value → Heap → Prop} (e : EnvOk env) (hk : env.kindOf x = some .free) (hc : env.cells.lookup x = some c) (ho : h.get? c = some o) (hv : IsCel o (some v)) (q : Q v h) (hd : (x == ("__debug__" : Str)) = false) (hn : (x == ("__classdict__" : Str)) = false) : T prog w A (eval (.Name x pos) env) h Q :=
 fun s es=>wpAny_Name (by
  subst es
  exact wpAny_loadName_free e.kind hk hc ⟨o,ho,hv⟩ ⟨s.heap,s.toks,q⟩ hn) hd
theorem t_callLam {f c' : Addr} {name qual : Str} {params : Arguments} {body : PySem.Expr} {scope : Scope} {clos : List (Str × Addr)} {pm ctv : Value} {vs : List Value} {binds : List (Str × Value)} {Q : Value → Heap → Prop} (hroom : A.depth < recursionLimit) (ho : h.get? f = some (kla_obj name qual params body scope clos pm c' ctv)) (nl : h.NoLimit) (hcd : h.CodeRec (.ref c') qual)
  (hbind : bindArgs (kla_fn name qual params body scope clos pm (.ref c') ctv) ⟨vs,[]⟩ = pure binds) (hcell : ∀ x ∈ scope.names,x.2 ≠ .cell) (hloc : ∀ x ∈ binds,scope.names.lookup x.1 = some .local) (hco : scope.isCoroutine = false) (hgen : scope.isGenerator = false) (hk : scope.kind = .function)
  (k : ∀ h₁ env,EnvOk env → env.scope = scope → env.cells = clos → S h [] env.locals (bindM binds) [] h₁ → T prog w (A.deeper env) (eval body env) h₁ Q) : TC prog w A (.call (.ref f) ⟨vs,[]⟩) h Q:=fun s es=>by
 subst es
 refine kla_callFunE hroom ho rfl hco hgen rfl hcd ?_
 rw [hbind]
 refine wpAny_pure (wpAny_newFunctionEnv hcell hloc (fun h₁ ns sb => ?_) hk)
 have keep : ∀ b o,s.heap.get? b = some o → h₁.get? b = some o:=fun b o e=>(sb.2 b (Nat.ne_of_lt (Heap.lt_size e))).trans (Heap.get?_push_of_some _ e)
 refine ⟨nl.keeps keep,kla_codeExpr ?_⟩
 have H : S s.heap [] s.heap.objs.size (bindM binds) [] h₁:={
  base:=fun b o zz e=>keep b o e
  ns:=by rw [← bindM_eq]; exact ns
  led:=fun p hp=>by cases hp
  own:=fun p hp=>by cases hp
  nodup := .nil
  offL:=fun q=>by cases q
  newL:=get_size_none _
  dl:=fun d hd=>hd }
 refine T.nx (k h₁ (newEnv scope s.heap.objs.size mainGlobals clos (qual ++ ".<locals>.") (some f) (.ref c') none builtinsNs) ⟨hk,rfl,rfl,by unfold interactive; simp [newEnv,hk]⟩ rfl rfl H) (by
  rintro v h' tk q
  exact ⟨_,_,_,q⟩)
structure LamAt (Kf : Frag) (f c' cell la : Addr) (ofn oc ocell ol : Obj) (h : Heap) : Prop where
 g : Gr Kf h
 fn : h.get? f = some ofn
 code : h.get? c' = some oc
 cel : h.get? cell = some ocell
 lst : h.get? la = some ol
theorem filtIn {Kf : Frag} {f c' cell la : Addr} {oc ocell ol : Obj} {qual x y : Str} {params : Arguments} {scope : Scope} {clos : List (Str × Addr)} {pm ctv : Value} {p1 p2 p3 : Pos} {op : CmpOp} {cs : Array Value} {t : Tok} {jk : K → Bool}
  (hoc : oc.data = .fields cs) (hcq : cs[1]? = some (.str qual t)) (hcel : IsCel ocell (some (.ref la))) (hclo : clos.lookup y = some cell)
  (hbind : ∀ v,bindArgs (kla_fn "<lambda>" qual params (.Compare (.Name x p1) [op] [.Name y p2] p3) scope clos pm (.ref c') ctv) ⟨[v],[]⟩ = pure [(x,v)])
  (hcell : (scope.names.all fun x=>x.2 != .cell) = true) (hx : scope.names.lookup x = some .local) (hy : scope.names.lookup y = some .free) (hco : scope.isCoroutine = false) (hgen : scope.isGenerator = false) (hk : scope.kind = .function)
  (dx : (x == ("__debug__" : Str)) = false) (dy : (y == ("__debug__" : Str)) = false) (dy' : (y == ("__classdict__" : Str)) = false)
  (mem : ∀ {A : Around} {h : Heap} {v : Value} {k : K},h.get? la = some ol → knd.is k v = true → v.scannable = true → T prog w A (compareOp op v (.ref la)) h fun r h'=>r = .bool (jk k) ∧ h' = h)
  (hm : behindInMarks op (.Name y p2) = false:=by with_unfolding_all rfl) :
  Filt prog w knd (.ref f) jk (LamAt Kf f c' cell la (kla_obj "<lambda>" qual params (.Compare (.Name x p1) [op] [.Name y p2] p3) scope clos pm c' ctv) oc ocell ol) where
 fn:=⟨f,rfl,fun h z=>⟨_,z.fn,rfl⟩⟩
 keeps:=fun h z=>Keeps.func z.fn rfl
 call:=fun {A h v k} hh hr hu z hv hs=>T.call (t_callLam (by omega) z.fn z.g.nolimit ⟨c',oc,cs,t,rfl,z.code,hoc,hcq⟩ (hbind v) (fun p hp=>by
   have:=List.all_eq_true.mp hcell p hp
   simpa using this) (fun p hp=>by rw [List.mem_singleton.mp hp]; exact hx) hco hgen hk fun h₁ env e es ec H=>by
  replace H : S h [] env.locals (upd (fun zz=>none) x v) [] h₁:=H
  have sb : Sub [] h h₁:=H.base
  have kx : env.kindOf x = some .local:=by unfold Env.kindOf; rw [es]; exact hx
  have ky : env.kindOf y = some .free:=by unfold Env.kindOf; rw [es]; exact hy
  refine T.Compare (T.Name e H upd_here ?_ kx dx) hm
  refine t_NameFree e ky (by rw [ec]; exact hclo) (sb _ _ (by walk_at "ms") z.cel) hcel ?_ dy dy'
  refine (mem (sb _ _ (by walk_at "ms") z.lst) hv hs).mono fun r h₂ ⟨q1,q2⟩=>⟨q1,q2 ▸ sb⟩)
end
end Mine
end
section
namespace Mine
theorem holeW (h : Heap) (d : Addr) : ∃ hb : Heap,hb.get? d = none ∧ Sub [] hb h ∧ Sub [d] h hb:=by
 refine ⟨h.update d fun o=>{ o with data := .freed }, ?_, ?_, ?_⟩
 ·cases e : (h.update d fun o=>{ o with data := .freed }).get? d with
  | none=>rfl
  | some o =>
   exfalso
   unfold Heap.get? Heap.update at e
   simp only [Array.getElem?_modify] at e
   simp only [if_true] at e
   cases q : h.objs[d]? with
   | none=>rw [q] at e; simp at e
   | some o=>rw [q] at e; simp at e
 ·intro b o _ e
  by_cases z : b = d
  ·subst z
   exfalso
   unfold Heap.get? Heap.update at e
   simp only [Array.getElem?_modify] at e
   simp only [if_true] at e
   cases q : h.objs[b]? with
   | none=>rw [q] at e; simp at e
   | some o=>rw [q] at e; simp at e
  ·exact ((Heap.SameBut.update h d _).2 b z).symm.trans e
 ·intro b o nb e
  exact ((Heap.SameBut.update h d _).2 b (by simpa using nb)).trans e
theorem attrs_dictW {N : List Str} {od : Obj} {am : Str → Option Value} (ia : IsAttrs N od am) : ∃ es n,od = dictOf es n:=let ⟨es,n,e,_⟩:=ia; ⟨es,n,e⟩
theorem Reps.hd {prog : Program} {w : World} {F R : Store} {vs : List Value} {x : PV} {xs : List PV} (r : Reps prog w F R vs (x :: xs)) : ∃ v us,vs = v :: us ∧ Rep prog w F R v x ∧ Reps prog w F R us xs:=by
 cases r; exact ⟨_,_,rfl,‹_›,‹_›⟩
section
variable {K : Type} [DecidableEq K]
set_option tactic.hygienic true in
theorem addK_nodup {ks : List K} {k : K} (h : ks.Nodup) : (addK ks k).Nodup:=by
 unfold addK
 split
 ·exact h
 ·rename_i q
  rw [List.nodup_append]
  exact ⟨h,by simp,fun a ha b hb e=>q (by rw [List.mem_singleton.mp hb] at e; exact e ▸ ha)⟩
noncomputable def uniq (ks : List K) : List K:=ks.foldl addK []
theorem uniq_snoc (ks : List K) (k : K) : uniq (ks ++ [k]) = addK (uniq ks) k:=by simp [uniq]
theorem mem_uniq {ks : List K} {k : K} : k ∈ uniq ks ↔ k ∈ ks:=by
 have : ∀ (ks acc : List K),k ∈ ks.foldl addK acc ↔ k ∈ acc ∨ k ∈ ks:=by
  intro ks
  induction ks with
  | nil=>intro acc; simp
  | cons x r ih=>intro acc; rw [List.foldl_cons,ih,mem_addK,List.mem_cons,or_assoc]
 rw [uniq,this]; simp
theorem uniq_nodup (ks : List K) : (uniq ks).Nodup:=by
 have : ∀ (ks acc : List K),acc.Nodup → (ks.foldl addK acc).Nodup:=by
  intro ks
  induction ks with
  | nil=>intro acc h; exact h
  | cons x r ih=>intro acc h; exact ih _ (addK_nodup h)
 exact this ks [] .nil
end
section
variable {X : Fm} {Γ Γ' : Ctx} {F F' : Store} {m : Str → Option Value} {l : List (Addr × Obj)} {h h' : Heap} {Q : Out → Prop} {rest : List Stmt} {K : Type} [DecidableEq K]
theorem Holds.frame (H : Holds X Γ F m l h) (s : Sub [X.env.locals] h h') (n : h'.Ns X.env.locals m) : Holds X Γ F m l h' where
  s := { base := fun b o nb e => s b o (fun z => by rw [List.mem_singleton.mp z, H.s.newL] at e; cases e) (H.s.base b o nb e)
         ns := n
         led := fun p hp => s _ _ (fun z => H.s.offL (List.mem_singleton.mp z ▸ List.mem_map_of_mem hp)) (H.s.led p hp)
         own := H.s.own
         nodup := H.s.nodup
         offL := H.s.offL
         newL := H.s.newL
         dl := H.s.dl }
  fz := fun a o e => ⟨s _ _ (fun z => (H.fz a o e).2.1 (List.mem_singleton.mp z)) (H.fz a o e).1, (H.fz a o e).2⟩
  fn := H.fn
  f0 := H.f0
  nm := H.nm
  inj := H.inj
  cel := H.cel
  pl := H.pl
structure SeqP (prog : Program) (w : World) (kd : Kd prog w K) (p : PV) (ks : List K) : Prop where
 safe : Safe p
 ok : ∀ {F R : Store} {v : Value},Rep prog w F R v p → handedIn v = true ∧ plainIs v .none = true ∧ v ≠ .none ∧ (∀ a,v = .ref a → ∃ o,F a o) ∧ ∃ nb Vb Gb,SeqOk prog w v nb Vb Gb ∧ ItemsK kd.knd nb Vb ks ∧ ∀ h : Heap,(∀ a o,F a o → h.get? a = some o) → Gb h
noncomputable def TestP (X : Fm) (Γ : Ctx) (kd : Kd X.prog X.w K) (p : PV) (jk : K → Bool) : Prop := ∀ F m l h v,Holds X Γ F m l h → Rep X.prog X.w F (RS X l) v p → handedIn v = true ∧ ((v = .none ∧ ∀ k,jk k = false) ∨ ∃ Gj,Filt X.prog X.w kd.knd v jk Gj ∧ ∀ h',Sub [X.env.locals] h h' → Gj h')
noncomputable def amL (kd : Kd X.prog X.w K) (tp ap bp : PV) (aj : Bool) (ks : List K) (jk : K → Bool) : List (Str × PV) :=
 [((ofString "isjunk"),tp),((ofString "a"),ap),((ofString "b"),bp),((ofString "autojunk"),.bool aj),((ofString "matching_blocks"),.none),((ofString "opcodes"),.none),((ofString "fullbcount"),.none),
  ((ofString "b2j"),.obj (KDic kd.knd ks.length fun k=>if k ∈ ks ∧ (!jk k && !popF ks aj k) = true then some (.list ((placesK ks k 0).map .int)) else none)),
  ((ofString "bjunk"),.obj (KSet kd.knd ((uniq ks).filter jk))),((ofString "bpopular"),.obj (KSet kd.knd ((uniq ks).filter fun k => !jk k && popF ks aj k)))]
theorem InstAt.of {am : List (Str × PV)} {amv : Str → Option Value} {d : Addr} {od : Obj} {a : Addr} (h1 : F d od) (h2 : IsAttrs attrN od amv) (h3 : ∀ e ∈ am,∃ v,amv e.1 = some v ∧ handedIn v = true ∧ Rep X.prog X.w F noF v e.2) : InstAt X.prog X.w (am.lookup ·) F a (instObj aSM d) :=
 ⟨d,od,amv,rfl,h1,h2,fun x p e=>h3 (x,p) (by
  clear h3
  induction am with
  | nil=>simp at e
  | cons y r ih =>
   replace e : (y :: r).lookup x = some p:=e
   rw [List.lookup_cons] at e
   by_cases z : x = y.1
   ·subst z; simp at e; subst e; exact .head _
   ·have : (x == y.1) = false:=by simpa using z
    rw [this] at e; exact .tail _ (ih e))⟩
theorem allC {α : Type} {P : α → Prop} {a : α} {l : List α} (h : P a) (r : ∀ e ∈ l,P e) : ∀ e ∈ a :: l,P e:=fun e he=>by
 rcases List.mem_cons.mp he with rfl | he
 ·exact h
 ·exact r e he
theorem KSet.of {prog : Program} {w : World} {knd : KeyKind prog w K} {o : Obj} {js js' : List K} {F : Store} {a : Addr} (hs : IsSetK knd o js) (hn : js'.Nodup) (hm : ∀ k,k ∈ js' ↔ k ∈ js) : KSet knd js' F a o:=by
 obtain ⟨es,ep,t,P⟩:=id hs
 have hp : js'.Perm js:=by
  have sub : ∀ {a b : List K},a.Nodup → (∀ x ∈ a,x ∈ b) → a.length ≤ b.length:=by
   intro a
   induction a with
   | nil=>intro b _ _; exact Nat.zero_le _
   | cons y a ih =>
    intro b nd hs
    rw [List.nodup_cons] at nd
    have hy:=hs y (.head _)
    have:=ih (b:=b.erase y) nd.2 fun x hx=>(List.mem_erase_of_ne (by rintro rfl; exact nd.1 hx)).mpr (hs x (.tail _ hx))
    rw [List.length_erase_of_mem hy] at this
    have : 0 < b.length:=List.length_pos_of_mem hy
    simp only [List.length_cons]; omega
  exact (perm_sub P.nd (fun x hx=>(hm x).mpr hx) (sub hn fun x hx=>(hm x).mp hx))
 have hl:=hp.length_eq
 refine ⟨hn,by rw [hl,← P.len]; exact P.small,fun h e => ?_⟩
 have:=hs.of e
 rw [hl,show (fun k=>decide (k ∈ js')) = fun k=>decide (k ∈ js) from funext fun k=>by rw [decide_eq_decide]; exact hm k]
 exact this
theorem E.makeJ (ok : FmOk X) (hK : X.K = frag X.w.params) (kd : Kd X.prog X.w K) {f : Str} {pf pc : Pos} {es : List PySem.Expr} {ps : List PV} {tp ap bp : PV} {aj : Bool} {ks ls : List K} {jk : K → Bool} (ef : E X Γ (.Name f pf) (.raw (.ref aSM))) (ea : EA X Γ es ps) (hps : (ps = [tp,ap,bp] ∧ aj = true) ∨ ps = [tp,ap,bp,.bool aj]) (hst : noStars es = true) (ht : Safe tp) (tt : TestP X Γ kd tp jk) (sa : SeqP X.prog X.w kd ap ls) (sb : SeqP X.prog X.w kd bp ks) (hz : ks.length < 4000) (hrd : 50 ≤ X.rd) : E X Γ (.Call (.Name f pf) es [] pc) (.obj (InstAt X.prog X.w ((amL kd tp ap bp aj ks jk).lookup ·))):=fun F m l h H =>
 call_T ef ea H (fun F₁ h₁ vs le₁ H₁ rs=>by
  have hvs : ∃ jv av bv,Rep X.prog X.w F₁ (RS X l) jv tp ∧ Rep X.prog X.w F₁ (RS X l) av ap ∧ Rep X.prog X.w F₁ (RS X l) bv bp ∧ ((vs = [jv,av,bv] ∧ aj = true) ∨ vs = [jv,av,bv,.bool aj]):=by
   rcases hps with ⟨rfl,rfl⟩ | rfl
   ·obtain ⟨v1,w1,rfl,r1,rs1⟩:=rs.hd
    obtain ⟨v2,w2,rfl,r2,rs2⟩:=rs1.hd
    obtain ⟨v3,rfl,r3⟩:=rs2.one
    exact ⟨v1,v2,v3,r1,r2,r3,.inl ⟨rfl,rfl⟩⟩
   ·obtain ⟨v1,w1,rfl,r1,rs1⟩:=rs.hd
    obtain ⟨v2,w2,rfl,r2,rs2⟩:=rs1.hd
    obtain ⟨v3,w3,rfl,r3,rs3⟩:=rs2.hd
    obtain ⟨v4,rfl,r4⟩:=rs3.one
    obtain rfl:=r4.b
    exact ⟨v1,v2,v3,r1,r2,r3,.inr rfl⟩
  obtain ⟨jv,av,bv,rj,ra,rb,hvs⟩:=hvs
  obtain ⟨jh,jt⟩:=tt F₁ m l h₁ jv H₁ rj
  obtain ⟨ah,ap1,an,aF,_⟩:=sa.ok ra
  obtain ⟨bh,bp1,bn,bF,nb,Vb,Gb,sq,it,gb⟩:=sb.ok rb
  refine ⟨Keeps.frag (hK ▸ (H₁.gr ok).k) (by kernel_rfl!), ?_⟩
  have r1:=ok.room
  have r2:=ok.units
  obtain ⟨hb,hb1,hb2,hb3⟩:=holeW h₁ X.env.locals
  have G : Gr (frag X.w.params) hb:=hK ▸ ok.gr hb fun b o nb e=>hb3 b o (fun z=>by
   obtain rfl : b = X.env.locals:=by simpa using z
   rw [H₁.s.newL] at e; cases e) (H₁.s.base b o nb e)
  refine TP.call (TCP.make (Kf:=frag X.w.params) (fI:=at_SequenceMatcher_init) (hK ▸ (H₁.gr ok).k) (by kernel_rfl!) (by kernel_rfl!) (by kernel_rfl!) H₁.s.ns fun x dx h₂ s₂ n₂ gx gdx fx fdx => ?_)
  have hbS : Sub [] hb h₂:=fun b o nb e=>s₂ b o (fun z=>by rw [List.mem_singleton.mp z,hb1] at e; cases e) (hb2 b o nb e)
  have hbn : hb.get? dx = none:=by
   cases e : hb.get? dx with
   | none=>rfl
   | some o=>rw [hb2 dx o (by walk_at "ms") e] at fdx; cases fdx
  have keep : ∀ {h'},Sub [dx] h₂ h' → Sub [X.env.locals] h₁ h':=fun s b o nb e=>s b o (fun z=>by rw [List.mem_singleton.mp z,fdx] at e; cases e) (s₂ b o nb e)
  have hF : ∀ {h'},Sub [dx] h₂ h' → ∀ a o,F₁ a o → h'.get? a = some o:=fun s a o e=>keep s a o (by simpa using (H₁.fz a o e).2.1) (H₁.fz a o e).1
  have nd : ∀ {v : Value},(∀ a,v = .ref a → ∃ o,F₁ a o) → v ≠ .ref dx:=fun vF z=>by
   obtain ⟨o,e⟩:=vF dx z
   rw [(H₁.fz _ _ e).1] at fdx; cases fdx
  have fj : ∃ Gj : Heap → Prop,((jv = .none ∧ ∀ k,jk k = false) ∨ Filt X.prog X.w kd.knd jv jk Gj) ∧ ∀ h',Sub [dx] h₂ h' → Gj h':=by
   rcases jt with z | ⟨Gj,z,g⟩
   ·exact ⟨fun zz=>True,.inl z,fun zz zz=>trivial⟩
   ·exact ⟨Gj,.inr z,fun h' s=>g h' (keep s)⟩
  obtain ⟨Gj,fj,gj⟩:=fj
  have bind : ∀ s : Shared,s.heap = h₂ → BindsTo s fdOf_SequenceMatcher_init ⟨.ref x :: vs,[]⟩ [((ofString "self"),.ref x),((ofString "isjunk"),jv),((ofString "a"),av),((ofString "b"),bv),((ofString "autojunk"),.bool aj)]:=by
   rcases hvs with ⟨rfl,rfl⟩ | rfl
   ·exact bindsK (T:=153) (o:=o153 X.w.params) (G.sub hbS).k rfl (by kernel_rfl!) rfl rfl rfl
   ·exact bindsK (T:=153) (o:=o153 X.w.params) (G.sub hbS).k rfl (by kernel_rfl!) rfl rfl rfl
  refine initJ (K:=K) (knd:=kd.knd) (jv:=jv) (av:=av) (bv:=bv) (nb:=nb) (Vb:=Vb) (ks:=ks) (jk:=jk) (aj:=aj) (Gb:=Gb) (Gj:=Gj) G hbS hbn ok.hh (by rw [depth_under_make]; omega) (by show X.A.units + _ + 180 < cLine; have : (Code.builtin "type.__call__" ⟨.ref aSM :: vs,[]⟩).cUnits ≤ 1:=Nat.le_refl _; omega) bind gx gdx ⟨ap1,an,nd aF⟩ ⟨bp1,bn,nd bF⟩ jh sq (fun h' s=>gb h' (hF s)) fj gj it kd.sc hz fun h₃ od d dj dp s₃ g₃ ia₃ ck=>⟨rfl, ?_⟩
  have H₂:=H₁.frame s₂ n₂
  have H₃ : Holds X Γ F₁ m l h₃:=H₁.frame (keep s₃) (by
   obtain ⟨oL,a1,a2,a3,a4⟩:=n₂
   exact ⟨oL,a1,a2,s₃ _ _ (fun z=>by
    have z : X.env.locals = dx:=by simpa using z
    obtain ⟨oL',_,_,e1,_⟩:=H₁.s.ns
    rw [z,fdx] at e1; cases e1) a3,a4⟩)
  have xdx : x ≠ dx:=inst_ne gx gdx (IsAttrs.nil (N:=attrN))
  have n₁ : ∀ {a},h₂.get? a = none → h₁.get? a = none:=fun {a} e=>by
   cases q : h₁.get? a with
   | none=>rfl
   | some o =>
    by_cases z : a = X.env.locals
    ·obtain ⟨oL',_,_,e1,_⟩:=n₂
     rw [z,e1] at e; cases e
    ·rw [s₂ a o (by simpa using z) q] at e; cases e
  let F₂ : Store:=fun b q=>F₁ b q ∨ (h₁.get? b = none ∧ h₃.get? b = some q)
  have H₄ : Holds X Γ F₂ m l h₃:=H₃.grow (fun zz zz e => .inl e) (fun a o e=>e.elim (H₃.fz a o) fun ⟨e1,e2⟩=>⟨e2,(H₁.s.fresh e1).2⟩) fun a o e=>e.elim (H₃.fn a o) fun ⟨e1,_⟩ => .inr (H₁.s.fresh e1).1
  have up : ∀ {v p},Rep X.prog X.w F₁ (RS X l) v p → Safe p → Rep X.prog X.w F₂ noF v p:=fun r s=>(r.safe s).mono (fun zz zz e => .inl e) fun zz zz e=>e
  have ld : ∃ o kvs fam,h₃.get? d = some o ∧ IsDicK kd.knd o kvs ∧ FamK ks (fun k => !jk k && !popF ks aj k) kvs fam ∧ ∀ p ∈ fam,h₃.get? p.1 = some p.2 ∧ h₂.get? p.1 = none:=ck.dic
  obtain ⟨odc,kvs,fam,gd,dk,fk,fam2⟩:=ld
  obtain ⟨oj,js,gjs,sj,mj⟩:=ck.jun
  obtain ⟨op,qs,gps,sp,mp⟩:=ck.pop
  have nvd : ∀ {o : Obj},o.cls = .type "dict" → ¬ NoVal o:=fun e z=>z.ne e (by decide +kernel)
  have nvs : ∀ {o : Obj},o.cls = .type "set" → ¬ NoVal o:=fun e z=>z.ne e (by decide +kernel)
  have dv : ∀ (F' : Store),(∀ a o,F₂ a o → ¬ NoVal o → F' a o) → KDic kd.knd ks.length (fun k=>if k ∈ ks ∧ (!jk k && !popF ks aj k) = true then some (.list ((placesK ks k 0).map .int)) else none) F' d odc:=fun F' le=>⟨ck.lo,kvs,dk,fk.len,fun k=>by
   dsimp only
   by_cases q : k ∈ ks ∧ (!jk k && !popF ks aj k) = true
   ·rw [if_pos q]
    obtain ⟨a,o,us',e1,e2,e3,e4⟩:=fk.there k q.1 q.2
    rw [e1]
    exact .list (le _ _ (.inr ⟨n₁ (fam2 _ e2).2,(fam2 _ e2).1⟩) fun z=>z.ne e3.cls.1 (by decide +kernel)) e3 (Reps.ints e4)
   ·rw [if_neg q,fk.no k q]; trivial⟩
  have inst : InstAt X.prog X.w ((amL kd tp ap bp aj ks jk).lookup ·) F₂ x (instObj aSM dx):=by
   refine InstAt.of (.inr ⟨fdx,g₃⟩) ia₃ (allC ?_ (allC ?_ (allC ?_ (allC ?_ (allC ?_ (allC ?_ (allC ?_ (allC ?_ (allC ?_ (allC ?_ fun zz z=>by cases z))))))))))
   ·exact ⟨jv,by show amJ jv av bv aj d dj dp (ofString "isjunk") = _; delta amJ am2; walk_at "look",jh,up rj ht⟩
   ·exact ⟨av,by show amJ jv av bv aj d dj dp (ofString "a") = _; delta amJ am2; walk_at "look",ah,up ra sa.safe⟩
   ·exact ⟨bv,by show amJ jv av bv aj d dj dp (ofString "b") = _; delta amJ am2; walk_at "look",bh,up rb sb.safe⟩
   ·exact ⟨_,by show amJ jv av bv aj d dj dp (ofString "autojunk") = _; delta amJ am2; walk_at "look",rfl,.bool aj⟩
   ·exact ⟨_,by show amJ jv av bv aj d dj dp (ofString "matching_blocks") = _; delta amJ am2; walk_at "look",rfl,.none⟩
   ·exact ⟨_,by show amJ jv av bv aj d dj dp (ofString "opcodes") = _; delta amJ am2; walk_at "look",rfl,.none⟩
   ·exact ⟨_,by show amJ jv av bv aj d dj dp (ofString "fullbcount") = _; delta amJ am2; walk_at "look",rfl,.none⟩
   ·exact ⟨_,by show amJ jv av bv aj d dj dp (ofString "b2j") = _; delta amJ am2; walk_at "look",rfl,.obj (.inr ⟨n₁ ck.nd,gd⟩) (dv _ fun zz zz e zz=>e) (nvd dk.cls.1) dv⟩
   ·exact ⟨_,by show amJ jv av bv aj d dj dp (ofString "bjunk") = _; delta amJ am2; walk_at "look",rfl,.obj (.inr ⟨n₁ ck.nj,gjs⟩) (KSet.of sj ((uniq_nodup ks).filter _) fun k=>by rw [List.mem_filter,mem_uniq]; exact (mj k).symm) (nvs sj.cls.1) fun zz zz=>KSet.of sj ((uniq_nodup ks).filter _) fun k=>by rw [List.mem_filter,mem_uniq]; exact (mj k).symm⟩
   ·have mp' : ∀ k,k ∈ (uniq ks).filter (fun k => !jk k && popF ks aj k) ↔ k ∈ qs:=fun k=>by
     rw [List.mem_filter,mem_uniq,mp k]; simp
    exact ⟨_,by show amJ jv av bv aj d dj dp (ofString "bpopular") = _; delta amJ am2; walk_at "look",rfl,.obj (.inr ⟨n₁ ck.np,gps⟩) (KSet.of sp ((uniq_nodup ks).filter _) mp') (nvs sp.cls.1) fun zz zz=>KSet.of sp ((uniq_nodup ks).filter _) mp'⟩
  refine ⟨F₂,fun a o e => .inl (le₁ a o e),H₄,.obj (.inr ⟨fx,s₃ _ _ (by simpa using xdx) gx⟩) inst (fun z=>by
   obtain ⟨⟨d,hd,e'⟩,_⟩:=z
   cases e') fun F' le => ?_⟩
  obtain ⟨d₁,od₁,amv,e0,e1,e2,e3⟩:=inst
  refine ⟨d₁,od₁,amv,e0,le _ _ e1 fun z => ?_,e2,fun y p e => ?_⟩
  ·obtain ⟨es',n',rfl⟩:=attrs_dictW e2
   exact z.ne (c := "dict") rfl (by decide +kernel)
  ·obtain ⟨v,q1,q2,q3⟩:=e3 y p e
   exact ⟨v,q1,q2,q3.monoV le⟩) hst
end
end Mine
end
section
namespace Mine
noncomputable def LamP (qual : Str) (params : Arguments) (body : PySem.Expr) (scope : Scope) (clos : List (Str × Addr)) : Store → Addr → Obj → Prop:=fun F a o => ∃ pm c' ctv oc vs t,o = kla_obj "<lambda>" qual params body scope clos pm c' ctv ∧ F c' oc ∧ ¬ NoVal oc ∧ oc.data = .fields vs ∧ vs[1]? = some (.str qual t)
noncomputable def PinP (a₀ : Addr) (P : Store → Addr → Obj → Prop) : Store → Addr → Obj → Prop:=fun F a o=>a = a₀ ∧ P F a o
section
variable {X : Fm} {Γ Γ' : Ctx} {F F' : Store} {m : Str → Option Value} {l : List (Addr × Obj)} {h h' : Heap} {Q : Out → Prop} {rest ss : List Stmt} {K : Type} [DecidableEq K]
noncomputable def EG (X : Fm) (Γ : Ctx) (e : PySem.Expr) (p : PV) (Γ' : Ctx) : Prop := ∀ F m l h,Holds X Γ F m l h → TP X.prog X.w X.A (eval e X.env) h fun v h' => ∃ F' m' l',(∀ a o,F a o → F' a o) ∧ Holds X Γ' F' m' l' h' ∧ Rep X.prog X.w F' X.XR v p
theorem EG.ifTrue {test body orelse : PySem.Expr} {pos : Pos} {p : PV} (ht : B X Γ test true) (eb : EG X Γ body p Γ') : EG X Γ (.IfExp test body orelse pos) p Γ':=fun F m l h H =>
 p_IfExp ((ht F m l h H).mono fun c h₁ ⟨F₁,le₁,H₁,hc⟩=>by
  subst hc
  exact (eb F₁ m l h₁ H₁).mono fun v h₂ ⟨F₂,m₂,l₂,le₂,H₂,r⟩=>⟨F₂,m₂,l₂,fun a o e=>le₂ a o (le₁ a o e),H₂,r⟩)
theorem ex_assignG (ok : FmOk X) {x : Str} {px pos : Pos} {e : PySem.Expr} {p : PV} (ee : EG X Γ e p Γ') (hx : Sto X x) (r : Ex X ((x,.fz p) :: Γ') rest Q) (hs : swapsWith e (some (.Name x px)) pos.line X.env = Pure.pure false:=by rfl) : Ex X Γ (.Assign [.Name x px] e pos :: rest) Q := .cons fun F m l h H =>
 TP.Assign_Name ((ee F m l h H).mono fun v h₁ ⟨F₁,m₁,l₁,le₁,H₁,r₁⟩=>(H₁.putF ok hx r₁).mono fun _ h₂ ⟨m₂,l₂,H₂⟩=>⟨_,F₁,m₂,l₂,le₁,H₂,r⟩) hs
theorem Ex.pin (ok : FmOk X) {x : Str} {P : Store → Addr → Obj → Prop} (hx : Γ.lookup x = some (.fz (.obj P))) (r : ∀ a,Ex X ((x,.fz (.obj (PinP a P))) :: Γ) ss Q) : Ex X Γ ss Q:=fun F m l h H=>by
 obtain ⟨v,lk,bo⟩:=H.nm x _ hx
 obtain ⟨a,o,rfl,f1,p1,n1⟩:=Rep.o bo
 refine r a F m l h (H.rebindL hx (fun zz q=>q) fun u lu bu => ?_)
 obtain rfl:=Look.fn ok H lu lk
 cases bu with
 | obj h1 h2 h3 h4=>exact .obj h1 ⟨rfl,h2⟩ h3 fun F2 q=>⟨rfl,h4 F2 q⟩
noncomputable def Pl0 : Obj → Prop:=fun o=>o = tabObj #[]
theorem tab_pl {ps : Array Value} (h : TriplesOk ps.toList) : IsPl (tabObj ps):=⟨ps,rfl,h,rfl⟩
theorem EG.lambda (ok : FmOk X) (hK : X.K = frag X.w.params) {y : Str} {q : PV} {c p : Addr} {params : Arguments} {body : PySem.Expr} {scope : Scope} {pos : Pos} {bm : Addr} {obm : Obj} (hy : Γ.lookup y = some (.gh q p Pl0)) (hcode : X.env.code = .ref c) (C : ∀ h,Gr (frag X.w.params) h → CodeHd h c p) (hdef : defaultsOf params X.env = ([],[])) (hfree : ∀ z ∈ scope.names,z.2 = .free → (X.env.cells.lookup z.1).isSome = true) (hgp : mainGlobals ≠ p)
  (hbm : nsIn (frag X.w.params) mainGlobals (ofString "__builtins__") = some (some (.ref bm))) (n1 : bm ≠ builtinsNs) (n2 : bm ≠ mainGlobals) (n3 : bm ≠ p) (hob : (frag X.w.params).lookup bm = some obm) (b1 : obm.cls = .type "module") (b2 : obm.dict = some builtinsNs) (b3 : obm.data = .plain) :
  EG X Γ (.Lambda params body scope pos) (.obj (LamP (X.env.qual ++ "<lambda>") params body scope (closL X.env.cells scope.names []))) ((y,.gh q p IsPl) :: Γ):=fun F m l h H=>by
 obtain ⟨v,lk,rq,op,hl,hp0,nc⟩:=H.nm y _ hy
 have G : Gr (frag X.w.params) h:=hK ▸ H.gr ok
 subst hp0
 refine TP.of (t_lambda (P:=p) (c:=c) (bm:=bm) (obm:=obm) G hdef (closure_eq hfree) ok.e.glob hcode (C h G) (H.s.led _ hl) hgp hbm n1 n2 n3 (G.k _ _ hob) b1 b2 b3 fun h₁ f c' ctv pm oc vs t sb nf nc' nfc gf gc hd hv gp => ?_)
 have s₁ : Sub [p] h h₁:=fun b o nb e=>sb b o (by simpa using nb) e
 have np : IsPl (tabObj #[rawInt pos.line,rawInt pos.col,.ref c']):=tab_pl trivial
 obtain ⟨l',hm,H₁⟩:=H.turnD ok (b' := .gh q p IsPl) hy (.head _) (fun zz q=>q) lk hl nc (by intro u; exact fun z=>by cases z) (.inr np) s₁ gp fun l' hl' zz=>⟨rq,_,hl',np,by intro u; exact fun z=>by cases z⟩
 have frf:=H.fresh nf
 have frc:=H.fresh nc'
 have ncl : ∀ {a},Fresh X F l a → a ∉ l'.map (·.1):=fun fr=>by rw [hm]; exact fr.offl
 have H₂:=H₁.lay (a:=c') (o:=oc) ⟨frc.new,frc.offL,ncl frc,frc.offF⟩ gc
 have H₃:=H₂.lay (a:=f) ⟨frf.new,frf.offL,ncl frf,fun o e=>e.elim (frf.offF o) fun z=>nfc z.1.symm⟩ gf
 have nvo : ¬ NoVal oc:=fun z=>z.2.2 vs _ t hd hv
 have nvf : ¬ NoVal (kla_obj "<lambda>" (X.env.qual ++ "<lambda>") params body scope (closL X.env.cells scope.names []) pm c' ctv):=fun z=>z.ne (c := "function") rfl (by decide +kernel)
 exact ⟨_,m,l',fun a o e => .inl (.inl e),H₃,.obj (.inr ⟨rfl,rfl⟩) ⟨pm,c',ctv,oc,vs,t,rfl,.inl (.inr ⟨rfl,rfl⟩),nvo,hd,hv⟩ nvf fun F2 q=>⟨pm,c',ctv,oc,vs,t,rfl,q _ _ (.inl (.inr ⟨rfl,rfl⟩)) nvo,nvo,hd,hv⟩⟩
end
end Mine
end
section
namespace Mine
section
variable {X : Fm} {Γ Γ' : Ctx} {F F' : Store} {m : Str → Option Value} {l : List (Addr × Obj)} {h h' : Heap} {Q : Out → Prop} {rest ss : List Stmt} {K : Type} [DecidableEq K]
theorem TestP.none {kd : Kd X.prog X.w K} : TestP X Γ kd .none fun zz=>false:=fun F m l h v H r=>by
 rw [r.n]
 exact ⟨rfl,.inl ⟨rfl,fun zz=>rfl⟩⟩
theorem TestP.lam (ok : FmOk X) (hK : X.K = frag X.w.params) (kd : Kd X.prog X.w K) {x y : Str} {ps : List PV} {a : Addr} {qual : Str} {params : Arguments} {scope : Scope} {p1 p2 p3 : Pos} {op : CmpOp} {jk : K → Bool} (hy : Γ.lookup y = some (.fz (.list ps))) (hps : Safes ps) (ky : X.env.kindOf y = some .cell) (hfree : ∀ z ∈ scope.names,z.2 = .free → (X.env.cells.lookup z.1).isSome = true) (hyf : (y,NameKind.free) ∈ scope.names)
  (hbind : ∀ pm c' ctv v,bindArgs (kla_fn "<lambda>" qual params (.Compare (.Name x p1) [op] [.Name y p2] p3) scope (closL X.env.cells scope.names []) pm c' ctv) ⟨[v],[]⟩ = pure [(x,v)])
  (hcell : (scope.names.all fun x=>x.2 != .cell) = true) (hx : scope.names.lookup x = some .local) (hy' : scope.names.lookup y = some .free) (hco : scope.isCoroutine = false) (hgen : scope.isGenerator = false) (hk : scope.kind = .function)
  (dx : (x == ("__debug__" : Str)) = false) (dy : (y == ("__debug__" : Str)) = false) (dy' : (y == ("__classdict__" : Str)) = false)
  (mem : ∀ {F : Store} {A : Around} {h : Heap} {la : Addr} {o : Obj} {vs : List Value} {v : Value} {k : K},h.get? la = some o → IsLst o vs → Reps X.prog X.w F noF vs ps → kd.knd.is k v = true → v.scannable = true → T X.prog X.w A (compareOp op v (.ref la)) h fun r h'=>r = .bool (jk k) ∧ h' = h)
  (hm : behindInMarks op (.Name y p2) = false:=by with_unfolding_all rfl) :
  TestP X Γ kd (.obj (PinP a (LamP qual params (.Compare (.Name x p1) [op] [.Name y p2] p3) scope (closL X.env.cells scope.names [])))) jk:=fun F m l h v H r=>by
 obtain ⟨f,o,rfl,ff,⟨rfl,pm,c',ctv,oc,cs,t,rfl,fc,nvc,hoc,hcq⟩,_⟩:=r.o
 refine ⟨rfl,.inr ?_⟩
 obtain ⟨u,lk,bo⟩:=H.nm y _ hy
 obtain ⟨la,ol,vs,rfl,fl,h1,h2⟩:=Rep.l bo
 rcases lk with ⟨k,_⟩ | ⟨c,oce,k,hc,hl,hcel⟩
 ·rw [ky] at k; cases k
 have cl : (closL X.env.cells scope.names []).lookup y = some c:=by
  obtain ⟨d,hd⟩:=Option.isSome_iff_exists.mp (closL_has (cells:=X.env.cells) (x:=y) scope.names [] (.inr hyf))
  have:=closL_look _ _ hfree (by walk_at "ms") hd
  rw [hc] at this; cases this; exact hd
 refine ⟨_,filtIn (Kf:=X.K) (c':=c') (cell:=c) (la:=la) (ocell:=oce) (ol:=ol) hoc hcq hcel cl (fun v=>hbind pm _ ctv v) hcell hx hy' hco hgen hk dx dy dy' (fun {A h v k} g1 g2 g3=>mem g1 h1 (F:=F) (h2.safe hps) g2 g3) hm,fun h' s => ?_⟩
 have off : ∀ {b o},F b o → h'.get? b = some o:=fun {b o} e=>s b o (by simpa using (H.fz b o e).2.1) (H.fz b o e).1
 refine ⟨ok.gr h' fun b o nb e=>s b o (fun z => ?_) (H.s.base b o nb e),off ff,off fc, ?_,off fl⟩
 ·rw [List.mem_singleton.mp z,H.s.newL] at e; cases e
 ·refine s _ _ (fun z => ?_) (H.rs ok (hl.elim .inr .inl))
  have z : c = X.env.locals:=by simpa using z
  rcases hl with hl | hl
  ·exact H.s.offL (z ▸ List.mem_map_of_mem hl)
  ·have:=(ok.xr c oce hl).1
   rw [z,H.s.newL] at this; cases this
end
end Mine
end
section
namespace Mine
end Mine
end
section
namespace Mine
section
variable {X : Fm} {Γ Γ' Γc : Ctx} {F F' : Store} {m : Str → Option Value} {l : List (Addr × Obj)} {h h' : Heap} {Q : Out → Prop} {rest : List Stmt} {s : Scope} {cn : List Str}
end
end Mine
end
section
namespace Mine
section
variable {prog : Program} {w : World} {A : Around} {h h' h₀ : Heap}
theorem ints_at {vs : List Value} {ns : List Int} (hi : IntsAre vs ns) {i : Nat} (hi' : i < vs.length) (hn : i < ns.length) : ∃ u,vs[i] = .int ns[i] u:=by
 obtain ⟨u,e⟩:=hi.get i ns[i] (by walk_at "ms")
 rw [List.getElem?_eq_getElem hi'] at e
 exact ⟨u,Option.some.inj e⟩
end
section
variable {X : Fm} {Γ Γ' : Ctx} {F F' : Store} {m : Str → Option Value} {l : List (Addr × Obj)} {h h' : Heap} {Q : Out → Prop} {rest ss : List Stmt}
theorem E.one {e : PySem.Expr} {op : BoolOp} {pos : Pos} {p : PV} (ee : E X Γ e p) : E X Γ (.BoolOp op [e] pos) p:=ee
theorem E.and2 {a e₂ : PySem.Expr} {rest : List PySem.Expr} {pos : Pos} {b c : Bool} (ea : E X Γ a (.bool b)) (er : b = true → E X Γ (.BoolOp .And (e₂ :: rest) pos) (.bool c)) : E X Γ (.BoolOp .And (a :: e₂ :: rest) pos) (.bool (b && c)):=fun F m l h H s es hp=>by
 refine BoolOp_and (TPL.el (ea F m l h H) es hp ?_)
 rintro v h₁ t₁ g₁ hp₁ ⟨F₁,le₁,H₁,r₁⟩
 rw [r₁.b]
 refine TP.nx (TP.of (T.truthy_bool (Q:=fun c h'=>c = b ∧ h' = h₁) ⟨rfl,rfl⟩)) hp₁ ?_
 rintro d h₂ t₂ g₂ hp₂ ⟨rfl,rfl⟩
 cases d with
 | false=>exact ⟨_,_,g₂,hp₂,F₁,le₁,H₁,.bool false⟩
 | true =>
  rw [if_pos rfl]
  refine TP.nx (er rfl F₁ m l h₂ H₁) hp₂ ?_
  rintro u h₃ t₃ g₃ hp₃ ⟨F₃,le₃,H₃,r₃⟩
  exact ⟨_,_,g₃,hp₃,F₃,fun a o e=>le₃ a o (le₁ a o e),H₃,by rw [Bool.true_and]; exact r₃⟩
end
end Mine
end
section
namespace Mine
section
variable {prog : Program} {w : World} {A : Around} {h h' h₀ : Heap}
end
section
variable {X : Fm} {Γ Γ' : Ctx} {F F' : Store} {m : Str → Option Value} {l : List (Addr × Obj)} {h h' : Heap} {Q : Out → Prop} {rest ss : List Stmt}
theorem It.range0 (ok : FmOk X) {x f : Str} {px pf pos : Pos} {e : PySem.Expr} {i : Int} (ef : E X Γ (.Name f pf) (.raw (.type "range"))) (ee : E X Γ e (.int i)) (hi : i ≤ 0) (hi' : -1000000 ≤ i) (hst : noStars [e] = true) : It X Γ (.Call (.Name f pf) [e] [] pos) (.Name x px) 0 (fun i => .int i):=fun F m l h H =>
 call_T ef (.cons ee .nil) H (fun F₁ h₁ vs le₁ H₁ rs=>⟨Keeps.type,by
  obtain ⟨_,rfl,r1⟩:=rs.one
  obtain ⟨t,rfl⟩:=r1.i
  refine TP.of fun s es => ?_
  subst es
  refine call_range_1 ⟨_,_,F₁,le₁,H₁.sub (Sub.push _ _),TP.of fun s₁ es₁ => ?_⟩
  have hR:=IsRange.new s.heap 0 i 1 s.toks t (s.toks + 1)
  rw [← es₁] at hR
  have hsz : Builtin.Range.rangeSize 0 i 1 = 0:=by rw [rangeSize_one]; split <;> omega
  refine wpAny_pyIter_range hR (small_one (by omega) (by omega) (by omega) (by omega)) ⟨_,s₁.toks,s₁.heap.objs.size,ritO 0 0 0,(fun i o=>o = ritO 0 0 i),(fun i v => ∃ t,v = .int (0 + (i : Int)) t),rfl, ?_, ?_, ?_,rfl,fun i o h=>noval_rit h,fun h zz => ?_,fun i v hi hv => ?_⟩
  ·rw [← es₁]; exact Sub.push _ _
  ·rw [← es₁]; exact get_size_none _
  ·have:=get_push_self s₁.heap { cls := .type "range_iterator",data := .fields #[rawInt 0,rawInt (Builtin.Range.rangeSize 0 i 1),rawInt 1] }
   rw [this,hsz,ritO]
   simp
  ·have:=Iter.range (prog:=X.prog) (w:=X.w) (A:=X.A) (I:=s₁.heap.objs.size) (hb:=h) (a:=0) (b:=0) (x:=x) (px:=px) ok.hh (by omega)
   rwa [show ((0 : Int) - 0).toNat = 0 by omega] at this
  ·omega⟩) hst
end
end Mine
end
section
namespace Mine
section
variable {X : Fm} {Γ Γ' : Ctx} {F F' : Store} {m : Str → Option Value} {l : List (Addr × Obj)} {h h' : Heap} {Q : Out → Prop} {rest ss : List Stmt}
end
end Mine
end
section
namespace Mine
section
variable {M : Model} {A : Around} {E : Value → Shared → Prop} {s₀ s : Shared} {L : Addr} {m cm : Str → Option Value} {env : Env}
theorem stLC1 {n : Str} {v : Value} {Q : Unit → Shared → Prop} (x : InCallC s₀ env.locals m env.cells cm s) (hk : env.scope.kind = .function) (hl : env.kindOf n = some .local)
  (h : ∀ s',InCallC s₀ env.locals (fun y=>if y = n then some v else m y) env.cells cm s' → s.toks < s'.toks → Q () s') : wpAny M A (storeName env n v) Q E s:=by
 refine wpAny_storeName_local hl x.toInCall.ns (fun h' hn' hs'=>h _ ⟨⟨?_,hn',fun b o e => ?_,x.toInCall.fresh⟩,fun k c hc => ?_,x.apart,x.above⟩ (Nat.lt_succ_self _)) (by rw [hk]; rfl)
 ·obtain ⟨h₁,tk,rfl⟩:=x.toInCall.same
  exact ⟨h',_,rfl⟩
 ·exact hs'.extBut b o (Nat.ne_of_lt (Nat.lt_of_lt_of_le (Heap.lt_size e) x.toInCall.fresh)) (x.toInCall.keep b o e)
 ·exact (x.cell k c hc).sameBut hs' (Nat.ne_of_gt (x.above k c (mem_of_lookup hc)))
theorem bindParams1 (f : Str × Value → PUnit → Sem (ForInStep PUnit)) (hf : ∀ n v u,f (n,v) u = (do storeName env n v; pure (.yield ⟨⟩))) (hk : env.scope.kind = .function)
  (n : Str) (v : Value) (m cm : Str → Option Value) (s : Shared) (Q : PUnit → Shared → Prop) (x : InCallC s₀ env.locals m env.cells cm s) (hl : env.kindOf n = some .local)
  (h : ∀ s',InCallC s₀ env.locals (bindL env.kindOf [(n,v)] m) env.cells (bindC env.kindOf [(n,v)] cm) s' → 0 < s'.toks → Q ⟨⟩ s') : wpAny M A (forIn [(n,v)] ⟨⟩ f) Q E s:=by
 rw [List.forIn_cons,hf]
 refine wpAny_bind (wpAny_bind (stLC1 x hk hl fun s' x' lt=>wpAny_pure ?_))
 show wpAny M A (forIn ([] : List (Str × Value)) PUnit.unit f) Q E s'
 rw [List.forIn_nil]
 refine wpAny_pure (h s' ?_ (Nat.lt_of_le_of_lt (Nat.zero_le _) lt))
 unfold bindL bindC; rw [if_pos hl,if_pos hl]; exact x'
end
section
variable {M : Model} {A : Around} {E : Value → Shared → Prop} {s : Shared}
theorem newFunctionEnv_cells1 {scope : Scope} {globals : Addr} {n0 : Str} {v0 : Value} {qual : Str} {func : Option Addr} {code : Value} {builtins : Addr} {Q : Env → Shared → Prop}
  (hk : scope.kind = .function)
  (hkind : scope.names.lookup n0 = some .local)
  (hQ : ∀ env,env = newEnv scope s.heap.objs.size globals (cellsFrom (s.heap.objs.size + 1) scope.names []) qual func code none builtins →
   ∀ s',InCallC s env.locals (bindL env.kindOf [(n0,v0)] fun zz=>none) env.cells (bindC env.kindOf [(n0,v0)] fun zz=>none) s' → 0 < s'.toks → Q env s') :
  wpAny M A (newFunctionEnv scope globals [] [(n0,v0)] qual func code none builtins) Q E s:=by
 simp only [newFunctionEnv,Option.isSome_none,Bool.false_eq_true,if_false]
 refine wpAny_bind (wpAny_alloc ?_)
 refine wpAny_bind (wpAny_layCells _ (fun name kind cells=>by cases hkc : kind == NameKind.cell <;> simp [hkc]) _ _ _ _ ?_)
 have ok:=cellsFrom_ok scope.names (s.heap.push { cls := .type "frame",data := .dict #[] }) (s.heap.objs.size + 1) [] ⟨fun zz zz hm=>(nomatch hm),List.Pairwise.nil⟩ (by rw [Heap.size_push]; exact Nat.le_refl _)
 rw [Heap.size_push] at ok
 rw [show ({ s with heap:=s.heap.push { cls := .type "frame",data := .dict #[] } } : Shared).heap.objs.size = s.heap.objs.size + 1 from Heap.size_push ..]
 refine wpAny_bind (bindParams1 (s₀:=s) (env:=newEnv scope s.heap.objs.size globals (cellsFrom (s.heap.objs.size + 1) scope.names []) qual func code none builtins)
  _ (fun zz zz zz=>rfl) hk n0 v0 (fun zz=>none) (fun zz=>none) _ _
  ⟨⟨⟨_,_,rfl⟩,(Heap.Ns.new s.heap (.type "frame")).keeps (pushCells_keeps _ _),fun b o e=>pushCells_keeps _ _ b o (Heap.get?_push_of_some _ e),Nat.le_refl _⟩,
   fun n c hc=>(ok.empty n c (mem_of_lookup hc)).1,ok.apart,fun n c hm=>(ok.empty n c hm).2⟩
  hkind fun s' x lt=>wpAny_pure (hQ _ rfl s' x lt))
end
theorem call_cells1 {prog : Program} {w : World} {A : Around} {s : Shared} {R : Result → Shared → Prop} {a : Addr} {o : Obj} {fd : FuncData} {body : List Stmt} {vals : List Value} {n0 : Str} {v0 : Value}
  (hroom : A.depth < recursionLimit) (ho : s.heap.get? a = some o) (hdata : o.data = .func fd) (hlim : s.heap.NoLimit) (hcd : s.heap.CodeRec fd.code fd.qualname)
  (hbody : fd.body = .stmts body) (hbind : bindArgs fd ⟨vals,[]⟩ = pure [(n0,v0)]) (hclo : fd.closure = [])
  (hkind : fd.scope.names.lookup n0 = some .local)
  (h : ∀ s₁,InCallC s (callEnvC fd s.heap.objs.size a).locals (bindL (callEnvC fd s.heap.objs.size a).kindOf [(n0,v0)] fun zz=>none) (callEnvC fd s.heap.objs.size a).cells
    (bindC (callEnvC fd s.heap.objs.size a).kindOf [(n0,v0)] fun zz=>none) s₁ → 0 < s₁.toks →
   wpAny (model prog w) (A.deeper (callEnvC fd s.heap.objs.size a)) (execs body (callEnvC fd s.heap.objs.size a)) (fun f s'=>R (.ok (.ret (match f with | .ret v=>v | _ => .none))) s')
    (fun e s'=>wpAny (model prog w) (A.deeper (callEnvC fd s.heap.objs.size a)) (leaving (callEnvC fd s.heap.objs.size a) e) (fun zz s''=>R (.error e) s'') (fun e' s''=>R (.error e') s'') s') s₁)
  (hco : fd.scope.isCoroutine = false) (hgen : fd.scope.isGenerator = false) (hk : fd.scope.kind = .function) :
  codeAny (model prog w) A (.call (.ref a) ⟨vals,[]⟩) R s:=by
 refine codeAny_call_function hroom ho hdata hco hgen hbody hcd ?_
 rw [hbind,hclo]
 refine wpAny_pure (newFunctionEnv_cells1 hk hkind fun env he s' x lt => ?_)
 subst he
 exact ⟨hlim.keeps x.toInCall.keep,codeAny_func (h s' x lt)⟩
theorem call_cells2 {prog : Program} {w : World} {A : Around} {s : Shared} {R : Result → Shared → Prop} {a : Addr} {o : Obj} {fd : FuncData} {body : List Stmt} {vals : List Value} {binds : List (Str × Value)} {n0 : Str} {v0 : Value} (hb : binds = [(n0,v0)]) (hloc : fd.scope.names.lookup n0 = some .local)
  (hroom : A.depth < recursionLimit) (ho : s.heap.get? a = some o) (hdata : o.data = .func fd) (hlim : s.heap.NoLimit) (hcd : s.heap.CodeRec fd.code fd.qualname)
  (hbody : fd.body = .stmts body) (hbind : bindArgs fd ⟨vals,[]⟩ = pure binds) (hclo : fd.closure = [])
  (h : ∀ s₁,InCallC s (callEnvC fd s.heap.objs.size a).locals (bindL (callEnvC fd s.heap.objs.size a).kindOf binds fun zz=>none) (callEnvC fd s.heap.objs.size a).cells
    (bindC (callEnvC fd s.heap.objs.size a).kindOf binds fun zz=>none) s₁ → 0 < s₁.toks →
   wpAny (model prog w) (A.deeper (callEnvC fd s.heap.objs.size a)) (execs body (callEnvC fd s.heap.objs.size a)) (fun f s'=>R (.ok (.ret (match f with | .ret v=>v | _ => .none))) s')
    (fun e s'=>wpAny (model prog w) (A.deeper (callEnvC fd s.heap.objs.size a)) (leaving (callEnvC fd s.heap.objs.size a) e) (fun zz s''=>R (.error e) s'') (fun e' s''=>R (.error e') s'') s') s₁)
  (hco : fd.scope.isCoroutine = false) (hgen : fd.scope.isGenerator = false) (hk : fd.scope.kind = .function) :
  codeAny (model prog w) A (.call (.ref a) ⟨vals,[]⟩) R s:=by
 subst hb
 exact call_cells1 hroom ho hdata hlim hcd hbody hbind hclo hloc h hco hgen hk
theorem fn_runC {prog : Program} {w : World} {A : Around} {h : Heap} {K : Frag} {f : Addr} {fd : FuncData} {body : List Stmt} {vs : List Value} {ns : List Str} {bs : List Bind} {F : Store} {lD : List (Addr × Obj)} (rd : Nat) (pl : List Addr) (hpl : PlOk pl lD) (Q : PV → Ctx → Prop) (fk : FnOkC K f fd body) (hh : A.handled = none) (room : A.depth + 21 + rd < recursionLimit) (units : A.units + 30 + 10 * rd < cLine)
  (G : ∀ h',Sub (lD.map (·.1)) h h' → Gr K h') (std : ∀ a o,F a o → h.get? a = some o ∧ a ∉ lD.map (·.1)) (hl : ∀ p ∈ lD,h.get? p.1 = some p.2) (nd : (lD.map (·.1)).Nodup)
  (hbind : bindArgs fd ⟨vs,[]⟩ = pure (ns.zip vs)) (hns : ns.Nodup) (hlen : ns.length = vs.length) {n0 : Str} {v0 : Value} (hone : ns.zip vs = [(n0,v0)]) (hloc : fd.scope.names.lookup n0 = some .local) (hkind : (ns.all fun x=>decide (fd.scope.names.lookup x = some .local) || (decide (fd.scope.names.lookup x = some .cell) && (cellNames fd.scope.names []).contains x)) = true)
  (args : Args prog w F lD vs bs)
  (run : ∀ X : Fm,FmOk X → Sc X fd.scope (cellNames fd.scope.names []) → (∀ x c,X.env.cells.lookup x = some c → X.h₀.get? c = none) → X.prog = prog → X.w = w → X.K = K → X.D = lD.map (·.1) → X.rd = rd → X.pl = pl → X.env.code = fd.code → Ex X (ns.zip bs) body fun o=>match o with | .ret p Γ=>Q p Γ | .next Γ=>Q .none Γ | _=>False) :
  ∀ s : Shared,s.heap = h → AllBare s.gens → codeAny (model prog w) A (.call (.ref f) ⟨vs,[]⟩) (PoC s fun v h'=>Ret prog w F h (lD.map (·.1)) Q v h' ∧ ∀ q ∈ pl,∃ o,h'.get? q = some o ∧ IsPl o) s:=fun s₀ es hg=>by
 obtain ⟨o,ho,hd⟩:=fk.lk
 have G0:=G _ Sub.refl
 refine fn_core (lo:=1) rd pl hpl Q fk hh room units G std hl nd hbind hns hlen hkind args run s₀ es fun R k => ?_
 subst es
 exact call_cells2 hone hloc (by omega) (G0.k _ _ ho) hd G0.nolimit (codeRec_of G0.k fk.cd) fk.body hbind fk.clo (fun s₁ XC leT=>k s₁ XC ⟨leT,by obtain ⟨h₁,t₁,e⟩:=XC.toInCall.same; rw [e]; exact hg⟩) fk.co fk.gen fk.kind
end Mine
end
section
namespace Mine
section
variable {X : Fm} {Γ Γ' : Ctx} {F F' : Store} {m : Str → Option Value} {l : List (Addr × Obj)} {h h' : Heap}
theorem Cmp.neNil (ok : FmOk X) {p : PV} {xs : List PV} (il : IsL p xs) : Cmp X .NotEq p (.list []) (decide (xs.length ≠ 0)):=fun Γ F m l h u v H ru rv=>by
 obtain ⟨a,vs,rfl,hl,rs⟩:=H.lst ok il ru
 obtain ⟨b,us,rfl,hl',rs'⟩:=H.lst ok (.list []) rv
 cases rs'
 have len:=rs.length
 have hu:=ok.units
 refine TP.of fun s es => ?_
 subst es
 by_cases c : xs.length = 0
 ·have hv : vs = []:=List.length_eq_zero_iff.mp (by omega)
  subst hv
  refine PySem.SeqAt.RcNeAt.lists (A:=X.A) (s:=s) (e:=fun zz=>true) hl hl' rfl (by omega) (fun j h1=>by simp at h1) _ _ _ _ ⟨s.heap,s.toks,F,fun zz zz e=>e,H, ?_⟩
  rw [decide_eq_false (by omega)]
  exact .bool _
 ·refine PySem.SeqAt.RcNeAt.lists_lengths (A:=X.A) (s:=s) hl hl' (by simp only [List.size_toArray,List.length_nil,bne_iff_ne,ne_eq]; omega) (by omega) _ _ _ _ ⟨s.heap,s.toks,F,fun zz zz e=>e,H, ?_⟩
  rw [decide_eq_true c]
  exact .bool _
theorem It.rangeI (ok : FmOk X) {x f : Str} {px pf pos : Pos} {e : PySem.Expr} {i : Int} (ef : E X Γ (.Name f pf) (.raw (.type "range"))) (ee : E X Γ e (.int i)) (h1 : -1000000 ≤ i) (h2 : i ≤ 1000000) (hst : noStars [e] = true) : It X Γ (.Call (.Name f pf) [e] [] pos) (.Name x px) i.toNat (fun i => .int i):=by
 by_cases c : 0 ≤ i
 ·obtain ⟨n,rfl⟩:=Int.eq_ofNat_of_zero_le c
  exact It.range1 ok ef ee (by omega) hst
 ·rw [show i.toNat = 0 by omega]
  exact It.range0 ok ef ee (by omega) h1 hst
theorem Cmp.neInts (ok : FmOk X) {p q : PV} {ns ms : List Int} (il : IsL p (ns.map .int)) (il' : IsL q (ms.map .int)) : Cmp X .NotEq p q (decide (ns ≠ ms)):=fun Γ F m l h u v H ru rv=>by
 obtain ⟨a,vs,rfl,hl,rs⟩:=H.lst ok il ru
 obtain ⟨b,us,rfl,hl',rs'⟩:=H.lst ok il' rv
 have hi:=rs.toInts
 have hi':=rs'.toInts
 have len:=hi.length
 have len':=hi'.length
 have hu:=ok.units
 refine TP.of fun s es => ?_
 subst es
 by_cases c : ns.length = ms.length
 ·have key:=PySem.SeqAt.RcNeAt.lists (A:=X.A) (s:=s) (e:=fun j=>ns.getD j 0 == ms.getD j 0) hl hl' (by simp only [List.size_toArray]; omega) (by omega) (fun j h1 h2=>by
   simp only [List.size_toArray] at h1 h2
   obtain ⟨t1,e1⟩:=ints_at hi h1 (by omega)
   obtain ⟨t2,e2⟩:=ints_at hi' h2 (by omega)
   simp only [List.getElem_toArray,e1,e2]
   rw [show ns.getD j 0 = ns[j] by simp [show j < ns.length by omega],show ms.getD j 0 = ms[j] by simp [show j < ms.length by omega]]
   exact (MeetsSeq.EqGives.int _ _ _ _).at _ _)
  refine key _ _ _ _ ⟨s.heap,s.toks,F,fun zz zz e=>e,H, ?_⟩
  have e4 : (!(List.range vs.toArray.size).all fun j=>ns.getD j 0 == ms.getD j 0) = decide (ns ≠ ms):=by
   rw [Bool.eq_iff_iff,decide_eq_true_eq,Bool.not_eq_true',← Bool.not_eq_true,List.all_eq_true]
   refine not_congr ⟨fun z => ?_,fun z=>by subst z; simp⟩
   apply List.ext_getElem c
   intro j h1 h2
   have:=z j (by simp; omega)
   simpa [h1,h2] using this
  rw [e4]
  exact .bool _
 ·refine PySem.SeqAt.RcNeAt.lists_lengths (A:=X.A) (s:=s) hl hl' (by simp only [List.size_toArray,bne_iff_ne,ne_eq]; omega) (by omega) _ _ _ _ ⟨s.heap,s.toks,F,fun zz zz e=>e,H, ?_⟩
  rw [show decide (ns ≠ ms) = true from decide_eq_true fun z=>c (by rw [z])]
  exact .bool _
end
end Mine
end
section
namespace Mine
section
variable {X : Fm} {Γ : Ctx} {F : Store} {m : Str → Option Value} {l : List (Addr × Obj)} {h : Heap}
end
end Mine
end
section
namespace Mine
structure WOrd (lt : Nat → Nat → Bool) : Prop where
 asym : ∀ i j,lt i j = true → lt j i = false
 tr : ∀ i j k,lt j i = false → lt k j = false → lt k i = false
noncomputable def gallopP : Bool → Keyed → Array Keyed → Nat → Nat → Nat → StateT SortSt Sem (Option Nat):=sortPriv% PySem.Builtin.gallop
noncomputable def mergeLoP : Array Keyed → Array Keyed → StateT SortSt Sem (Array Keyed):=sortPriv% PySem.Builtin.mergeLo
noncomputable def mergeHiP : Array Keyed → Array Keyed → StateT SortSt Sem (Array Keyed):=sortPriv% PySem.Builtin.mergeHi
noncomputable abbrev SS (κ : SortKind) (it : Array Keyed) (p : Array Nat) (pd : Array (Nat × Nat × Nat)) (g : Nat) : SortSt:=SortSt.mk' κ (p.map (kas_item it)) pd g none
noncomputable def Tr (prog : Program) (w : World) (A : Around) (E : Value → Shared → Prop) (G : Shared → Prop) {α : Type} (m : StateT SortSt Sem α) (Q : α → SortSt → Prop) (st : SortSt) : Prop :=
 ∀ s,G s → kasC (model prog w) A E m (fun a st' s'=>G s' ∧ Q a st') st s
noncomputable def CmpOk (prog : Program) (w : World) (A : Around) (G : Shared → Prop) (κ : SortKind) (it : Array Keyed) (N : Nat) (lt : Nat → Nat → Bool) : Prop :=
 ∀ i j,i < N → j < N → ∀ s,G s → kas_cmp prog w A κ it i j (fun c s'=>G s' ∧ c = lt i j) s
section
variable {prog : Program} {w : World} {A : Around} {E : Value → Shared → Prop} {G : Shared → Prop} {α β : Type} {st : SortSt}
theorem pE5 {T0 T1 T2 T3 T4 : Type} {P : T0 × T1 × T2 × T3 × T4 → Prop} (h : ∀ a0 a1 a2 a3 a4,P (a0,a1,a2,a3,a4)) : ∀ p,P p:=fun ⟨a0,a1,a2,a3,a4⟩=>h a0 a1 a2 a3 a4
theorem pE6 {T0 T1 T2 T3 T4 T5 : Type} {P : T0 × T1 × T2 × T3 × T4 × T5 → Prop} (h : ∀ a0 a1 a2 a3 a4 a5,P (a0,a1,a2,a3,a4,a5)) : ∀ p,P p:=fun ⟨a0,a1,a2,a3,a4,a5⟩=>h a0 a1 a2 a3 a4 a5
theorem pE7 {T0 T1 T2 T3 T4 T5 T6 : Type} {P : T0 × T1 × T2 × T3 × T4 × T5 × T6 → Prop} (h : ∀ a0 a1 a2 a3 a4 a5 a6,P (a0,a1,a2,a3,a4,a5,a6)) : ∀ p,P p:=fun ⟨a0,a1,a2,a3,a4,a5,a6⟩=>h a0 a1 a2 a3 a4 a5 a6
theorem Tr.pure {a : α} {Q : α → SortSt → Prop} (h : Q a st) : Tr prog w A E G (Pure.pure a) Q st:=fun s g=>kasC_pure ⟨g,h⟩
theorem Tr.bind {m : StateT SortSt Sem α} {f : α → StateT SortSt Sem β} {Q : β → SortSt → Prop} (h : Tr prog w A E G m (fun a st'=>Tr prog w A E G (f a) Q st') st) : Tr prog w A E G (m >>= f) Q st :=
 fun s g=>kasC_bind (wpAny_mono (h s g) (fun r s' x=>x.2 s' x.1) fun zz zz e=>e)
theorem Tr.mono {m : StateT SortSt Sem α} {Q Q' : α → SortSt → Prop} (h : Tr prog w A E G m Q st) (q : ∀ a st',Q a st' → Q' a st') : Tr prog w A E G m Q' st :=
 fun s g=>wpAny_mono (h s g) (fun r s' x=>⟨x.1,q _ _ x.2⟩) fun zz zz e=>e
theorem Tr.get {Q : SortSt → SortSt → Prop} (h : Q st st) : Tr prog w A E G (MonadState.get : StateT SortSt Sem SortSt) Q st:=fun s g=>kasC_get ⟨g,h⟩
theorem Tr.modify {f : SortSt → SortSt} {Q : PUnit → SortSt → Prop} (h : Q ⟨⟩ (f st)) : Tr prog w A E G (_root_.modify f : StateT SortSt Sem PUnit) Q st:=fun s g=>kasC_modify ⟨g,h⟩
theorem Tr.set {st' : SortSt} {Q : PUnit → SortSt → Prop} (h : Q ⟨⟩ st') : Tr prog w A E G (MonadStateOf.set st' : StateT SortSt Sem PUnit) Q st:=fun s g=>by
 unfold kasC
 rw [StateT.run_set]
 exact wpAny_pure ⟨g,h⟩
theorem Tr.rule {id : String} {Q : PUnit → SortSt → Prop} (h : Q ⟨⟩ st) : Tr prog w A E G (liftM (PySem.rule id) : StateT SortSt Sem PUnit) Q st:=fun s g=>kasC_lift (wpAny_rule ⟨g,h⟩)
theorem Tr.bG {f : SortSt → StateT SortSt Sem β} {Q : β → SortSt → Prop} (h : Tr prog w A E G (f st) Q st) : Tr prog w A E G ((MonadState.get : StateT SortSt Sem SortSt) >>= f) Q st:=Tr.bind (Tr.get h)
theorem Tr.bM {c : SortSt → SortSt} {f : PUnit → StateT SortSt Sem β} {Q : β → SortSt → Prop} (h : Tr prog w A E G (f ⟨⟩) Q (c st)) : Tr prog w A E G ((_root_.modify c : StateT SortSt Sem PUnit) >>= f) Q st:=Tr.bind (Tr.modify h)
theorem Tr.bR {id : String} {f : PUnit → StateT SortSt Sem β} {Q : β → SortSt → Prop} (h : Tr prog w A E G (f ⟨⟩) Q st) : Tr prog w A E G ((liftM (PySem.rule id) : StateT SortSt Sem PUnit) >>= f) Q st:=Tr.bind (Tr.rule h)
theorem Tr.for {a b : Nat} {c : β} {f : Nat → β → StateT SortSt Sem (ForInStep β)} {Q : β → SortSt → Prop} (I : Nat → β → SortSt → Prop) (hab : a ≤ b) (h0 : I a c st)
  (step : ∀ x c' st',a ≤ x → x < b → I x c' st' → Tr prog w A E G (f x c') (fun r st''=>match r with | .done c'=>Q c' st'' | .yield c'=>I (x + 1) c' st'') st')
  (fin : ∀ c' st',I b c' st' → Q c' st') : Tr prog w A E G (forIn [a:b] c f) Q st:=fun s g=>by
 refine kasC_range ?_
 have go : ∀ (k x : Nat) (c : β) (st : SortSt) (s : Shared),x + k = b → a ≤ x → I x c st → G s → kasC (model prog w) A E (forIn (List.range' x k) c f) (fun c' st' s'=>G s' ∧ Q c' st') st s:=by
  intro k
  induction k with
  | zero =>
   intro x c st s e hx hi g
   obtain rfl : x = b:=by omega
   exact kasC_nil ⟨g,fin _ _ hi⟩
  | succ k ih =>
   intro x c st s e hx hi g
   rw [List.range'_succ]
   refine kasC_cons (wpAny_mono (step x c st hx (by omega) hi s g) (fun r s' q => ?_) fun zz zz e=>e)
   obtain ⟨r,st'⟩:=r
   obtain ⟨g',q⟩:=q
   cases r with
   | done c'=>exact ⟨g',q⟩
   | yield c'=>exact ih (x + 1) c' st' s' (by omega) (by omega) q g'
 exact go (b - a) a c st s (by omega) (Nat.le_refl _) h0 g
variable {κ : SortKind} {it : Array Keyed} {N : Nat} {lt : Nat → Nat → Bool}
theorem Tr.elem {p : Array Nat} {i : Nat} {Q : Keyed → SortSt → Prop} (hi : i < p.size) (h : Q (kas_item it (p.getD i 0)) st) : Tr prog w A E G (elem' (p.map (kas_item it)) i) Q st:=by
 rw [elem'_eq]
 have e : p.getD i 0 = p[i]:=by simp [Array.getD,hi]
 rw [e] at h
 rw [show (p.map (kas_item it))[i]? = some (kas_item it p[i]) by simp [hi]]
 exact Tr.pure h
theorem Tr.ask (hc : CmpOk prog w A G κ it N lt) {p : Array Nat} {pd : Array (Nat × Nat × Nat)} {g i j : Nat} {Q : Option Bool → SortSt → Prop} (hi : i < N) (hj : j < N) (h : Q (some (lt i j)) (SS κ it p pd g)) :
  Tr prog w A E G (lt' (kas_item it i) (kas_item it j)) Q (SS κ it p pd g):=fun s gs=>by
 rw [lt'_eq]
 refine kasC_bind (kasC_get ?_)
 refine kasC_bind (kasC_lift (wpAny_attempt (wpAny_mono (hc i j hi hj s gs) (fun c s' hc => ?_) fun zz zz hF=>hF.elim)))
 obtain ⟨g',rfl⟩:=hc
 exact kasC_pure ⟨g',h⟩
theorem Tr.bE {p : Array Nat} {i : Nat} {f : Keyed → StateT SortSt Sem β} {Q : β → SortSt → Prop} (hi : i < p.size) (h : Tr prog w A E G (f (kas_item it (p.getD i 0))) Q st) : Tr prog w A E G (elem' (p.map (kas_item it)) i >>= f) Q st:=Tr.bind (Tr.elem hi h)
theorem Tr.bA (hc : CmpOk prog w A G κ it N lt) {p : Array Nat} {pd : Array (Nat × Nat × Nat)} {g i j : Nat} {f : Option Bool → StateT SortSt Sem β} {Q : β → SortSt → Prop} (hi : i < N) (hj : j < N) (h : Tr prog w A E G (f (some (lt i j))) Q (SS κ it p pd g)) : Tr prog w A E G (lt' (kas_item it i) (kas_item it j) >>= f) Q (SS κ it p pd g):=Tr.bind (Tr.ask hc hi hj h)
noncomputable def InN (N : Nat) (p : Array Nat) : Prop := ∀ i,i < p.size → p.getD i 0 < N
noncomputable def Bey (lt : Nat → Nat → Bool) (left : Bool) (key x : Nat) : Bool:=if left then lt x key else !lt key x
theorem Tr.beyond (hc : CmpOk prog w A G κ it N lt) {left : Bool} {p q : Array Nat} {pd : Array (Nat × Nat × Nat)} {g base i key : Nat} {Q : Option Bool → SortSt → Prop} (hp : InN N p) (hk : key < N) (hi : base + i < p.size)
  (h : Q (some (Bey lt left key (p.getD (base + i) 0))) (SS κ it q pd g)) :
  Tr prog w A E G (elem' (p.map (kas_item it)) (base + i) >>= fun x=>if left = true then lt' x (kas_item it key) else lt' (kas_item it key) x >>= fun y=>Pure.pure (Option.map (fun x => !x) y)) Q (SS κ it q pd g):=by
 refine Tr.bE hi ?_
 cases left with
 | true=>exact Tr.ask hc (hp _ hi) hk h
 | false=>exact (Tr.bA hc hk (hp _ hi) (Tr.pure h))
theorem Tr.tail {f : Nat → Bool} {n lo hi : Nat} {F : Nat → Option (Option Nat) × Nat × Nat → StateT SortSt Sem (ForInStep (Option (Option Nat) × Nat × Nat))} {Q : Option (Option Nat) × Nat × Nat → SortSt → Prop}
  (up : ∀ m,m < n → f m = true → ∀ i,i < m + 1 → f i = true) (dn : ∀ m,m < n → f m = false → ∀ i,m ≤ i → i < n → f i = false)
  (hF : ∀ x lo hi (R : ForInStep (Option (Option Nat) × Nat × Nat) → SortSt → Prop),(lo ≥ hi → R (.done (none,lo,hi)) st) → (lo < hi → lo + (hi - lo) / 2 < n ∧ (f (lo + (hi - lo) / 2) = true → R (.yield (none,lo + (hi - lo) / 2 + 1,hi)) st) ∧ (f (lo + (hi - lo) / 2) = false → R (.yield (none,lo,lo + (hi - lo) / 2)) st)) → Tr prog w A E G (F x (none,lo,hi)) R st)
  (h1 : lo ≤ hi) (h2 : hi ≤ n) (h3 : ∀ i,i < lo → f i = true) (h4 : ∀ i,hi ≤ i → i < n → f i = false) (h : ∀ k,k ≤ n → (∀ i,i < k → f i = true) → (∀ i,k ≤ i → i < n → f i = false) → Q (none,k,k) st) : Tr prog w A E G (forIn [0:n] ((none,lo,hi) : Option (Option Nat) × Nat × Nat) F) Q st:=by
 refine Tr.for (fun x b st'=>st' = st ∧ b.1 = none ∧ b.2.1 ≤ b.2.2 ∧ b.2.2 ≤ n ∧ b.2.2 - b.2.1 ≤ n - x ∧ (∀ i,i < b.2.1 → f i = true) ∧ (∀ i,b.2.2 ≤ i → i < n → f i = false)) (Nat.zero_le _) ⟨rfl,rfl,h1,h2,by dsimp only; omega,h3,h4⟩ ?_ ?_
 ·rintro x ⟨r,lo,hi⟩ st' _ hx ⟨rfl,rfl,h1,h2,h3,h4,h5⟩
  dsimp only at h1 h2 h3 h4 h5 ⊢
  refine hF _ _ _ _ (fun z => ?_) fun z=>⟨by omega,fun c => ?_,fun c => ?_⟩
  ·obtain rfl : lo = hi:=by omega
   exact h lo h2 h4 h5
  ·exact ⟨rfl,rfl,(by omega : lo + (hi - lo) / 2 + 1 ≤ hi),h2,(by omega : hi - (lo + (hi - lo) / 2 + 1) ≤ n - (x + 1)),up (lo + (hi - lo) / 2) (by omega) c,h5⟩
  ·exact ⟨rfl,rfl,by dsimp only; omega,by dsimp only; omega,(by omega : lo + (hi - lo) / 2 - lo ≤ n - (x + 1)),h4,dn (lo + (hi - lo) / 2) (by omega) c⟩
 ·rintro ⟨r,lo,hi⟩ st' ⟨rfl,rfl,h1,h2,h3,h4,h5⟩
  dsimp only at h1 h2 h3 h4 h5 ⊢
  obtain rfl : lo = hi:=by omega
  exact h lo h2 h4 h5
theorem Tr.gallop (hc : CmpOk prog w A G κ it N lt) {left : Bool} {p q : Array Nat} {pd : Array (Nat × Nat × Nat)} {g base n hint key : Nat} {Q : Option Nat → SortSt → Prop} (hp : InN N p) (hk : key < N) (hb : base + n ≤ p.size) (hh : hint < n)
  (mono : ∀ i j,i ≤ j → j < n → Bey lt left key (p.getD (base + j) 0) = true → Bey lt left key (p.getD (base + i) 0) = true)
  (h : ∀ k,k ≤ n → (∀ i,i < k → Bey lt left key (p.getD (base + i) 0) = true) → (∀ i,k ≤ i → i < n → Bey lt left key (p.getD (base + i) 0) = false) → Q (some k) (SS κ it q pd g)) :
  Tr prog w A E G (gallopP left (kas_item it key) (p.map (kas_item it)) base n hint) Q (SS κ it q pd g):=by
 have up : ∀ m,m < n → Bey lt left key (p.getD (base + m) 0) = true → ∀ i,i < m + 1 → Bey lt left key (p.getD (base + i) 0) = true:=fun m hm e i hi=>mono i m (by omega) hm e
 have dn : ∀ m,m < n → Bey lt left key (p.getD (base + m) 0) = false → ∀ i,m ≤ i → i < n → Bey lt left key (p.getD (base + i) 0) = false:=fun m hm e i hi hn=>by
  cases c : Bey lt left key (p.getD (base + i) 0) with
  | false=>rfl
  | true=>rw [mono m i hi hn c] at e; cases e
 refine Tr.bind (Tr.beyond hc hp hk (by omega) ?_)
 dsimp only
 cases c : Bey lt left key (p.getD (base + hint) 0) with
 | true =>
  simp only [if_true]
  refine Tr.bind (Tr.mono (Tr.for (Q:=fun b st'=>st' = SS κ it q pd g ∧ b.1 = none ∧ (∀ i,i < hint + b.2.1 + 1 → Bey lt left key (p.getD (base + i) 0) = true) ∧ hint + b.2.1 < n ∧ b.2.1 < b.2.2 ∧ (b.2.2 < n - hint → Bey lt left key (p.getD (base + (hint + b.2.2)) 0) = false)) (fun x b st'=>st' = SS κ it q pd g ∧ b.1 = none ∧ (∀ i,i < hint + b.2.1 + 1 → Bey lt left key (p.getD (base + i) 0) = true) ∧ hint + b.2.1 < n ∧ x + 1 ≤ b.2.2 ∧ b.2.1 < b.2.2) (Nat.zero_le _) ⟨rfl,rfl,up _ hh c,by simpa using hh,by simp,by simp⟩ ?_ ?_) ?_)
  ·rintro x ⟨r,lastofs,ofs⟩ st' _ hx ⟨rfl,rfl,h1,h2,h3,h4⟩
   dsimp only at h1 h2 h3 h4 ⊢
   by_cases c1 : ofs ≥ n - hint
   ·rw [if_pos c1]
    exact Tr.pure ⟨rfl,rfl,h1,h2,h4,fun z=>by dsimp only at z; omega⟩
   ·rw [if_neg c1]
    refine Tr.bind (Tr.beyond hc hp hk (by omega) ?_)
    cases c2 : Bey lt left key (p.getD (base + (hint + ofs)) 0) with
    | true =>
     simp only [Bool.not_true,Bool.false_eq_true,if_false]
     exact Tr.pure ⟨rfl,rfl,up (hint + ofs) (by omega) c2,(by omega : hint + ofs < n),(by omega : x + 1 + 1 ≤ 2 * ofs + 1),(by omega : ofs < 2 * ofs + 1)⟩
    | false =>
     simp only [Bool.not_false,if_true]
     exact Tr.pure ⟨rfl,rfl,h1,h2,h4,fun zz=>c2⟩
  ·rintro ⟨r,lastofs,ofs⟩ st' ⟨rfl,rfl,h1,h2,h3,h4⟩
   exact ⟨rfl,rfl,h1,h2,h4,fun z=>by dsimp only at h3 z; omega⟩
  ·rintro ⟨r,lastofs,ofs⟩ st' ⟨rfl,rfl,h1,h2,h3,h4⟩
   dsimp only at h1 h2 h3 h4 ⊢
   refine Tr.bind (Tr.tail (f:=fun i=>Bey lt left key (p.getD (base + i) 0)) up dn (fun x lo hi R r1 r2 => ?_) (by omega) (by omega) h1 (fun i hi hn=>dn _ (by omega) (h4 (by omega)) i (by omega) hn) fun k a b c=>Tr.pure (h k a b c))
   dsimp only
   by_cases c1 : lo ≥ hi
   ·rw [if_pos c1]
    exact Tr.pure (r1 c1)
   ·rw [if_neg c1]
    obtain ⟨r2,r3,r4⟩:=r2 (by omega)
    refine Tr.bind (Tr.beyond hc hp hk (by omega) ?_)
    cases c2 : Bey lt left key (p.getD (base + (lo + (hi - lo) / 2)) 0) with
    | true =>
     simp only [if_true]
     exact Tr.pure (r3 c2)
    | false =>
     simp only [Bool.false_eq_true,if_false]
     exact Tr.pure (r4 c2)
 | false =>
  simp only [Bool.false_eq_true,if_false]
  refine Tr.bind (Tr.mono (Tr.for (Q:=fun b st'=>st' = SS κ it q pd g ∧ b.1 = none ∧ (∀ i,hint - b.2.1 ≤ i → i < n → Bey lt left key (p.getD (base + i) 0) = false) ∧ b.2.1 < b.2.2 ∧ b.2.1 ≤ hint ∧ (b.2.2 < hint + 1 → Bey lt left key (p.getD (base + (hint - b.2.2)) 0) = true)) (fun x b st'=>st' = SS κ it q pd g ∧ b.1 = none ∧ (∀ i,hint - b.2.1 ≤ i → i < n → Bey lt left key (p.getD (base + i) 0) = false) ∧ x + 1 ≤ b.2.2 ∧ b.2.1 < b.2.2 ∧ b.2.1 ≤ hint) (Nat.zero_le _) ⟨rfl,rfl,dn _ hh c,by simp,by simp,by simp⟩ ?_ ?_) ?_)
  ·rintro x ⟨r,lastofs,ofs⟩ st' _ hx ⟨rfl,rfl,h1,h3,h4,h5⟩
   dsimp only at h1 h3 h4 h5 ⊢
   by_cases c1 : ofs ≥ hint + 1
   ·rw [if_pos c1]
    exact Tr.pure ⟨rfl,rfl,h1,h4,h5,fun z=>by dsimp only at z; omega⟩
   ·rw [if_neg c1]
    refine Tr.bind (Tr.beyond hc hp hk (by omega) ?_)
    cases c2 : Bey lt left key (p.getD (base + (hint - ofs)) 0) with
    | true =>
     simp only [if_true]
     exact Tr.pure ⟨rfl,rfl,h1,h4,h5,fun zz=>c2⟩
    | false =>
     simp only [Bool.false_eq_true,if_false]
     exact Tr.pure ⟨rfl,rfl,dn (hint - ofs) (by omega) c2,(by omega : x + 1 + 1 ≤ 2 * ofs + 1),(by omega : ofs < 2 * ofs + 1),(by omega : ofs ≤ hint)⟩
  ·rintro ⟨r,lastofs,ofs⟩ st' ⟨rfl,rfl,h1,h3,h4,h5⟩
   exact ⟨rfl,rfl,h1,h4,h5,fun z=>by dsimp only at h3 z; omega⟩
  ·rintro ⟨r,lastofs,ofs⟩ st' ⟨rfl,rfl,h1,h3,h4,h5⟩
   dsimp only at h1 h3 h4 h5 ⊢
   refine Tr.bind (Tr.tail (f:=fun i=>Bey lt left key (p.getD (base + i) 0)) up dn (fun x lo hi R r1 r2 => ?_) (by omega) (by omega) (fun i hi=>by
    by_cases z : ofs < hint + 1
    ·exact up _ (by omega) (h5 z) i (by omega)
    ·exact (arZ hi z).elim) h1 fun k a b c=>Tr.pure (h k a b c))
   dsimp only
   by_cases c1 : lo ≥ hi
   ·rw [if_pos c1]
    exact Tr.pure (r1 c1)
   ·rw [if_neg c1]
    obtain ⟨r2,r3,r4⟩:=r2 (by omega)
    refine Tr.bind (Tr.beyond hc hp hk (by omega) ?_)
    cases c2 : Bey lt left key (p.getD (base + (lo + (hi - lo) / 2)) 0) with
    | true =>
     simp only [if_true]
     exact Tr.pure (r3 c2)
    | false =>
     simp only [Bool.false_eq_true,if_false]
     exact Tr.pure (r4 c2)
end
end Mine
end
section
namespace Mine
noncomputable def Sor (lt : Nat → Nat → Bool) (l : List Nat) : Prop:=l.Pairwise fun x y=>lt y x = false
structure Mg (lt : Nat → Nat → Bool) (T O Y Z : List Nat) : Prop where
 sy : Sor lt (O ++ Y)
 sz : Sor lt (O ++ Z)
 pm : (O ++ (Y ++ Z)).Perm T
section
variable {lt : Nat → Nat → Bool} {T O Y Y1 Y2 Z Z1 Z2 : List Nat} {y z : Nat}
theorem WOrd.flip (w : WOrd lt) : WOrd fun i j=>lt j i:=⟨fun i j h=>w.asym j i h,fun i j k h1 h2=>w.tr k j i h2 h1⟩
theorem WOrd.lele {i j k : Nat} (w : WOrd lt) (h : lt j i = false) (h' : lt j k = true) : lt i k = true:=by
 cases c : lt i k with
 | true=>rfl
 | false=>rw [w.tr _ _ _ c h] at h'; cases h'
theorem Sor.tail (s : Sor lt (O ++ Y)) : Sor lt Y:=(List.pairwise_append.mp s).2.1
theorem Sor.head (w : WOrd lt) (s : Sor lt (z :: Z)) {y : Nat} (h : lt z y = false) : ∀ x ∈ z :: Z,lt x y = false:=fun x hx=>by
 rcases List.mem_cons.mp hx with rfl | hx
 ·exact h
 ·exact w.tr _ _ _ h ((List.pairwise_cons.mp s).1 x hx)
theorem Mg.swap (m : Mg lt T O Y Z) : Mg lt T O Z Y:=⟨m.sz,m.sy,(List.Perm.append_left _ List.perm_append_comm).trans m.pm⟩
theorem Mg.left (m : Mg lt T O (Y1 ++ Y2) Z) (h : ∀ y ∈ Y1,∀ z ∈ Z,lt z y = false) : Mg lt T (O ++ Y1) Y2 Z:=by
 obtain ⟨a1,a2,a3⟩:=List.pairwise_append.mp m.sy
 obtain ⟨b1,b2,b3⟩:=List.pairwise_append.mp m.sz
 obtain ⟨c1,c2,c3⟩:=List.pairwise_append.mp a2
 refine ⟨by rw [List.append_assoc]; exact m.sy, ?_,by have:=m.pm; simpa only [List.append_assoc] using this⟩
 refine List.pairwise_append.mpr ⟨List.pairwise_append.mpr ⟨a1,c1,fun x hx y hy=>a3 x hx y (List.mem_append_left _ hy)⟩,b2,fun x hx z hz => ?_⟩
 rcases List.mem_append.mp hx with hx | hx
 ·exact b3 x hx z hz
 ·exact h x hx z hz
theorem Mg.takeL (w : WOrd lt) (m : Mg lt T O (Y1 ++ Y2) (z :: Z)) (h : ∀ y ∈ Y1,lt z y = false) : Mg lt T (O ++ Y1) Y2 (z :: Z) :=
 m.left fun y hy=>m.sz.tail.head w (h y hy)
theorem Mg.takeR (w : WOrd lt) (m : Mg lt T O (y :: Y) (Z1 ++ Z2)) (h : ∀ z ∈ Z1,lt y z = false) : Mg lt T (O ++ Z1) (y :: Y) Z2:=(m.swap.takeL w h).swap
theorem Mg.done (m : Mg lt T O Y Z) (h : ∀ y ∈ Y,∀ z ∈ Z,lt z y = false) : Sor lt (O ++ (Y ++ Z)):=by
 have:=Mg.sz (Mg.left (Y2:=[]) (by rw [List.append_nil]; exact m) h)
 rwa [List.append_assoc] at this
theorem drop_cons {l : List Nat} {i : Nat} (h : i < l.length) : l.drop i = l.getD i 0 :: l.drop (i + 1):=by
 rw [List.drop_eq_getElem_cons h]
 simp [List.getD,h]
theorem drop_split (l : List Nat) (i k : Nat) : l.drop i = (l.drop i).take k ++ l.drop (i + k):=by rw [← List.drop_drop,List.take_append_drop]
theorem ext_toList (a : Array Nat) (i : Nat) : (a.extract i).toList = a.toList.drop i:=by simp [List.take_of_length_le]
theorem arr_getD (a : Array Nat) (i : Nat) : a.getD i 0 = a.toList.getD i 0:=by simp [Array.getD_eq_getD_getElem?,List.getD]
end
section
variable {prog : Program} {w : World} {A : Around} {E : Value → Shared → Prop} {G : Shared → Prop} {κ : SortKind} {it : Array Keyed} {N : Nat} {lt : Nat → Nat → Bool}
theorem Tr.ite {α : Type} {c : Prop} [Decidable c] {m m' : StateT SortSt Sem α} {Q : α → SortSt → Prop} {st : SortSt} (h : Tr prog w A E G m Q st) (h' : Tr prog w A E G m' Q st) : Tr prog w A E G (if c then m else m') Q st:=by
 by_cases e : c
 ·rw [if_pos e]; exact h
 ·rw [if_neg e]; exact h'
theorem Sor.get (w : WOrd lt) {a : Array Nat} (s : Sor lt a.toList) {i j : Nat} (h : i ≤ j) (hj : j < a.size) : lt (a.getD j 0) (a.getD i 0) = false:=by
 by_cases e : i = j
 ·subst e
  cases c : lt (a.getD i 0) (a.getD i 0) with
  | false=>rfl
  | true=>have:=w.asym _ _ c; rw [c] at this; cases this
 ·have:=List.pairwise_iff_getElem.mp s i j (by simp; omega) (by simpa using hj) (by omega)
  simpa [Array.getD,hj,(show i < a.size by omega)] using this
theorem mem_take_drop {a : Array Nat} {i k y : Nat} (hk : i + k ≤ a.size) (h : y ∈ (a.toList.drop i).take k) : ∃ j,j < k ∧ y = a.getD (i + j) 0:=by
 obtain ⟨j,hj,e⟩:=List.mem_iff_getElem.mp h
 have hj' : j < k:=by simp at hj; omega
 refine ⟨j,hj', ?_⟩
 rw [← e]
 simp [Array.getD,(show i + j < a.size by omega)]
theorem ext_take (a : Array Nat) (i k : Nat) : (a.extract i (i + k)).toList = (a.toList.drop i).take k:=by simp
theorem Tr.if {α : Type} {c : Prop} [Decidable c] {m m' : StateT SortSt Sem α} {Q : α → SortSt → Prop} {st : SortSt} (h : c → Tr prog w A E G m Q st) (h' : ¬ c → Tr prog w A E G m' Q st) : Tr prog w A E G (if c then m else m') Q st:=by
 by_cases e : c
 ·rw [if_pos e]; exact h e
 ·rw [if_neg e]; exact h' e
inductive MEnd (lt : Nat → Nat → Bool) (κ : SortKind) (it : Array Keyed) (q : Array Nat) (pd : Array (Nat × Nat × Nat)) (T : List Nat) (r : Array Keyed) (st : SortSt) : Prop
 | mk (m : Array Nat) (g : Nat) : r = m.map (kas_item it) → st = SS κ it q pd g → m.toList.Perm T → Sor lt m.toList → MEnd lt κ it q pd T r st
inductive MLo (lt : Nat → Nat → Bool) (κ : SortKind) (it : Array Keyed) (q : Array Nat) (pd : Array (Nat × Nat × Nat)) (a b : Array Nat) (x : Nat) (out : Array Keyed) (ia ib : Nat) (st : SortSt) : Prop
 | mk (o : Array Nat) (g : Nat) : out = o.map (kas_item it) → st = SS κ it q pd g → ia + 1 < a.size → ib < b.size → x + 1 ≤ ia + ib → Mg lt (a.toList ++ b.toList) o.toList (a.toList.drop ia) (b.toList.drop ib) → MLo lt κ it q pd a b x out ia ib st
theorem MEnd.lo {q : Array Nat} {pd : Array (Nat × Nat × Nat)} {a b o : Array Nat} {out : Array Keyed} {ia ib g : Nat} (e : out = o.map (kas_item it)) (m : Mg lt (a.toList ++ b.toList) o.toList (a.toList.drop ia) (b.toList.drop ib)) (h : ∀ x ∈ a.toList.drop ia,∀ y ∈ b.toList.drop ib,lt y x = false) :
  MEnd lt κ it q pd (a.toList ++ b.toList) (out ++ (a.map (kas_item it)).extract ia a.size ++ (b.map (kas_item it)).extract ib b.size) (SS κ it q pd g):=by
 refine ⟨o ++ a.extract ia a.size ++ b.extract ib b.size,g,by simp [e],rfl, ?_, ?_⟩
 ·simp only [Array.toList_append,ext_toList,List.append_assoc]
  exact m.pm
 ·simp only [Array.toList_append,ext_toList,List.append_assoc]
  exact m.done h
theorem MEnd.lo' {q : Array Nat} {pd : Array (Nat × Nat × Nat)} {a b o : Array Nat} {out : Array Keyed} {ia ib g : Nat} (e : out = o.map (kas_item it)) (m : Mg lt (a.toList ++ b.toList) o.toList (a.toList.drop ia) (b.toList.drop ib)) (h : ∀ y ∈ b.toList.drop ib,∀ x ∈ a.toList.drop ia,lt x y = false) :
  MEnd lt κ it q pd (a.toList ++ b.toList) (out ++ (b.map (kas_item it)).extract ib b.size ++ (a.map (kas_item it)).extract ia a.size) (SS κ it q pd g):=by
 refine ⟨o ++ b.extract ib b.size ++ a.extract ia a.size,g,by simp [e],rfl, ?_, ?_⟩
 ·simp only [Array.toList_append,ext_toList,List.append_assoc]
  exact m.swap.pm
 ·simp only [Array.toList_append,ext_toList,List.append_assoc]
  exact m.swap.done h
theorem Tr.mergeLo (W : WOrd lt) (hc : CmpOk prog w A G κ it N lt) {a b q : Array Nat} {pd : Array (Nat × Nat × Nat)} {g : Nat} {Q : Array Keyed → SortSt → Prop} (ha : InN N a) (hb : InN N b) (sa : Sor lt a.toList) (sb : Sor lt b.toList) (a1 : 1 ≤ a.size) (b1 : 1 ≤ b.size)
  (h1 : ∀ x ∈ a.toList,lt x (b.getD 0 0) = false) (h2 : ∀ x ∈ b.toList,lt (a.getD (a.size - 1) 0) x = false) (h : ∀ r st,MEnd lt κ it q pd (a.toList ++ b.toList) r st → Q r st) :
  Tr prog w A E G (mergeLoP (a.map (kas_item it)) (b.map (kas_item it))) Q (SS κ it q pd g):=by
 refine Tr.bR ?_
 refine Tr.bE b1 ?_
 have m0 : Mg lt (a.toList ++ b.toList) #[b.getD 0 0].toList (a.toList.drop 0) (b.toList.drop 1):=by
  have e:=drop_cons (l:=b.toList) (i:=0) b1
  rw [List.drop_zero,← arr_getD] at e
  refine ⟨List.pairwise_cons.mpr ⟨h1,sa⟩, ?_, ?_⟩
  ·show Sor lt (b.getD 0 0 :: b.toList.drop (0 + 1))
   rw [← e]
   exact sb
  ·show (b.getD 0 0 :: (a.toList ++ b.toList.drop (0 + 1))).Perm (a.toList ++ b.toList)
   conv=>rhs; rw [e]
   exact List.perm_middle.symm
 have nil : ∀ {c : Array Nat} {i : Nat},i = c.size → c.toList.drop i = []:=fun {c i} e=>List.drop_eq_nil_of_le (by rw [e]; exact Nat.le_refl _)
 have one : ∀ {i : Nat},i + 1 = a.size → ∀ y ∈ b.toList,∀ x ∈ a.toList.drop i,lt x y = false:=fun {i} e y hy x hx=>by
  rw [drop_cons (by rw [Array.length_toList]; omega),nil e] at hx
  obtain rfl:=List.mem_singleton.mp hx
  have:=h2 y hy
  rwa [arr_getD,show a.size - 1 = i by omega] at this
 rw [Array.size_map,Array.size_map]
 refine Tr.if (fun c1 => ?_) fun c1 => ?_
 ·have c1 : 1 = b.size:=by simpa using c1
  exact Tr.pure (h _ _ (MEnd.lo (o := #[b.getD 0 0]) (by walk_at "ms") m0 (by rw [nil c1]; intro _ _ y hy; cases hy)))
 refine Tr.if (fun c2 => ?_) fun c2 => ?_
 ·have c2 : 0 + 1 = a.size:=by simpa using c2
  exact Tr.pure (h _ _ (MEnd.lo' (o := #[b.getD 0 0]) (by walk_at "ms") m0 fun y hy=>one c2 y (List.mem_of_mem_drop hy)))
 have c1 : 1 ≠ b.size:=by simpa using c1
 have c2 : 0 + 1 ≠ a.size:=by simpa using c2
 refine Tr.bG ?_
 have push : ∀ (o : Array Nat) (x : Nat),(o.map (kas_item it)).push (kas_item it x) = (o.push x).map (kas_item it):=fun o x=>by simp
 have dA : ∀ {i : Nat},i < a.size → a.toList.drop i = a.getD i 0 :: a.toList.drop (i + 1):=fun {i} e=>by rw [arr_getD]; exact drop_cons e
 have dB : ∀ {i : Nat},i < b.size → b.toList.drop i = b.getD i 0 :: b.toList.drop (i + 1):=fun {i} e=>by rw [arr_getD]; exact drop_cons e
 refine Tr.bind (Tr.mono (Tr.for (Q:=fun c st => ∃ r,c.1 = some r ∧ MEnd lt κ it q pd (a.toList ++ b.toList) r st) (fun x c st=>c.1 = none ∧ MLo lt κ it q pd a b x c.2.1 c.2.2.1 c.2.2.2.1 st) (Nat.zero_le _) ⟨rfl,#[b.getD 0 0],g,by simp,rfl,(by omega : 0 + 1 < a.size),(by omega : 1 < b.size),(by omega : 0 + 1 ≤ 0 + 1),m0⟩ ?_ ?_) ?_)
 ·intro x; refine pE5 ?_; rintro r out ia ib mg st' _ hx ⟨rfl,hL⟩
  dsimp only at hL
  refine Tr.bind (Tr.mono (Tr.for (Q:=fun c st=>(∃ r,c.1 = some r ∧ MEnd lt κ it q pd (a.toList ++ b.toList) r st) ∨ (c.1 = none ∧ MLo lt κ it q pd a b (x + 1) c.2.1 c.2.2.1 c.2.2.2.1 st)) (fun y c st=>c.1 = none ∧ MLo lt κ it q pd a b (x + y) c.2.1 c.2.2.1 c.2.2.2.1 st) (Nat.zero_le _) ⟨rfl,hL⟩ ?_ ?_) ?_)
  ·intro y; refine pE6 ?_; rintro r out ia ib acount bcount st' _ hy ⟨rfl,o,g',rfl,rfl,l1,l2,l3,mm⟩
   dsimp only [beq_iff_eq] at mm l1 l2 l3 ⊢
   simp only [beq_iff_eq]
   refine Tr.bE l2 ?_
   refine Tr.bE (by omega) ?_
   refine Tr.bA hc (hb _ l2) (ha _ (by omega)) ?_
   dsimp only
   rw [dA (i:=ia) (by omega),dB l2] at mm
   cases c : lt (b.getD ib 0) (a.getD ia 0) with
   | true =>
    simp only [if_true]
    refine Tr.bE l2 ?_
    have mm:=mm.takeR W (Z1:=[b.getD ib 0]) (fun z hz=>by rw [List.mem_singleton.mp hz]; exact W.asym _ _ c)
    rw [← dA (i:=ia) (by omega),← Array.toList_push] at mm
    refine Tr.if (fun c1=>Tr.pure (.inl ⟨_,rfl,MEnd.lo (push _ _) mm (by rw [nil c1]; intro _ _ y hy; cases hy)⟩)) fun c1 => ?_
    have L : MLo lt κ it q pd a b (x + (y + 1)) ((o.map (kas_item it)).push (kas_item it (b.getD ib 0))) ia (ib + 1) (SS κ it q pd g'):=⟨_,_,push _ _,rfl,l1,by omega,by omega,mm⟩
    exact Tr.ite (Tr.pure (.inr ⟨rfl,_,_,push _ _,rfl,l1,(by omega : ib + 1 < b.size),(by omega : x + 1 + 1 ≤ ia + (ib + 1)),mm⟩)) (Tr.pure ⟨rfl,L⟩)
   | false =>
    simp only [Bool.false_eq_true,if_false]
    refine Tr.bE (by omega) ?_
    have mm:=mm.takeL W (Y1:=[a.getD ia 0]) (fun z hz=>by rw [List.mem_singleton.mp hz]; exact c)
    rw [← dB l2,← Array.toList_push] at mm
    refine Tr.if (fun c1=>Tr.pure (.inl ⟨_,rfl,MEnd.lo' (push _ _) mm fun y hy=>one c1 y (List.mem_of_mem_drop hy)⟩)) fun c1 => ?_
    have L : MLo lt κ it q pd a b (x + (y + 1)) ((o.map (kas_item it)).push (kas_item it (a.getD ia 0))) (ia + 1) ib (SS κ it q pd g'):=⟨_,_,push _ _,rfl,by omega,l2,by omega,mm⟩
    exact Tr.ite (Tr.pure (.inr ⟨rfl,_,_,push _ _,rfl,(by omega : ia + 1 + 1 < a.size),l2,(by omega : x + 1 + 1 ≤ ia + 1 + ib),mm⟩)) (Tr.pure ⟨rfl,L⟩)
  ·refine pE6 ?_; rintro r out ia ib acount bcount st' ⟨e,o,g',e1,e2,l1,l2,l3,mm⟩
   exact .inr ⟨e,o,g',e1,e2,l1,l2,by omega,mm⟩
  refine pE6 ?_; rintro r out ia ib acount bcount st' (⟨r',rfl,hR⟩ | ⟨rfl,hL⟩)
  ·exact Tr.pure ⟨_,rfl,hR⟩
  dsimp only at hL
  refine Tr.bR ?_
  refine Tr.bind (Tr.mono (Tr.for (Q:=fun c st=>(∃ r,c.1 = some r ∧ MEnd lt κ it q pd (a.toList ++ b.toList) r st) ∨ (c.1 = none ∧ MLo lt κ it q pd a b (x + 1) c.2.1 c.2.2.1 c.2.2.2.1 st)) (fun zz c st=>c.1 = none ∧ MLo lt κ it q pd a b (x + 1) c.2.1 c.2.2.1 c.2.2.2.1 st) (Nat.zero_le _) ⟨rfl,hL⟩ ?_ fun zz zz h => .inr h) ?_)
  ·intro y; refine pE7 ?_; rintro r out ia ib mg acount bcount st' _ hy ⟨rfl,o,g',rfl,rfl,l1,l2,l3,mm⟩
   dsimp only at mm l1 l2 l3
   dsimp -zeta -zetaHave only
   extract_lets -underBinder -merge s1 s2 s3 s4 s5 s6 s7 s8 s9 s10 s11 jp
   have hj : ∀ u mg (PF : ForInStep (Option (Array Keyed) × Array Keyed × Nat × Nat × Nat × Nat × Nat) → SortSt → Prop),(∀ r o ia ib mg k k' st,MEnd lt κ it q pd (a.toList ++ b.toList) r st → PF (.done (some r,o,ia,ib,mg,k,k')) st) → (∀ o ia ib mg k k' st,MLo lt κ it q pd a b (x + 1) o ia ib st → PF (.done (none,o,ia,ib,mg,k,k')) st) →
     (∀ o ia ib mg k k' st,MLo lt κ it q pd a b (x + 1) o ia ib st → PF (.yield (none,o,ia,ib,mg,k,k')) st) → Tr prog w A E G (jp u mg) PF (SS κ it q pd g'):=by
    intro u mg PF p1 p2 p3
    refine Tr.bM ?_
    refine Tr.bE l2 ?_
    refine Tr.bind (Tr.gallop (base:=ia) (n:=a.size - ia) hc ha (hb _ l2) (by omega) (by omega) (fun i j hij hj e => ?_) fun k hk k1 k2 => ?_)
    ·simp only [Bey,Bool.false_eq_true,if_false,Bool.not_eq_true'] at e ⊢
     exact W.tr _ _ _ (sa.get W (by omega : ia + i ≤ ia + j) (by omega)) e
    dsimp -zeta -zetaHave only
    extract_lets -underBinder -merge ac jp2 ou ia2
    have hj2 : ∀ u out (o : Array Nat) ia,out = o.map (kas_item it) → ia + 1 < a.size → x + 2 ≤ ia + ib → lt (b.getD ib 0) (a.getD ia 0) = true → Mg lt (a.toList ++ b.toList) o.toList (a.toList.drop ia) (b.toList.drop ib) → Tr prog w A E G (jp2 u out ia) PF (SS κ it q pd mg):=by
     intro u out o ia eo l1 l3 low mm
     have eo : out.push (kas_item it (b.getD ib 0)) = (o.push (b.getD ib 0)).map (kas_item it):=by rw [eo]; exact push _ _
     refine Tr.bE l2 ?_
     rw [dA (i:=ia) (by omega),dB l2] at mm
     have mm:=mm.takeR W (Z1:=[b.getD ib 0]) (fun z hz=>by rw [List.mem_singleton.mp hz]; exact W.asym _ _ low)
     rw [← dA (i:=ia) (by omega),← Array.toList_push] at mm
     refine Tr.if (fun c1 => ?_) fun c1 => ?_
     ·have c1 : ib + 1 = b.size:=eq_of_beq c1
      exact Tr.pure (p1 _ _ _ _ _ _ _ _ (MEnd.lo eo mm (by rw [nil c1]; intro _ _ y hy; cases hy)))
     have c1 : ib + 1 ≠ b.size:=fun z=>c1 (beq_iff_eq.mpr z)
     refine Tr.bE (by omega) ?_
     refine Tr.bind (Tr.gallop (base:=ib + 1) (n:=b.size - (ib + 1)) hc hb (ha ia (by omega)) (by omega) (by omega) (fun i j hij hj e => ?_) fun k hk k1 k2 => ?_)
     ·simp only [Bey,if_true] at e ⊢
      exact W.lele (sb.get W (by omega : ib + 1 + i ≤ ib + 1 + j) (by omega)) e
     dsimp -zeta -zetaHave only
     extract_lets -underBinder -merge bc jp3 ou ib2
     have hj3 : ∀ u out (o : Array Nat) ib,out = o.map (kas_item it) → ib < b.size → x + 2 ≤ ia + ib → lt (b.getD ib 0) (a.getD ia 0) = false → Mg lt (a.toList ++ b.toList) o.toList (a.toList.drop ia) (b.toList.drop ib) → Tr prog w A E G (jp3 u out ib) PF (SS κ it q pd mg):=by
      intro u out o ib eo l2 l3 low mm
      have eo : out.push (kas_item it (a.getD ia 0)) = (o.push (a.getD ia 0)).map (kas_item it):=by rw [eo]; exact push _ _
      refine Tr.bE (by omega) ?_
      rw [dA (i:=ia) (by omega),dB l2] at mm
      have mm:=mm.takeL W (Y1:=[a.getD ia 0]) (fun z hz=>by rw [List.mem_singleton.mp hz]; exact low)
      rw [← dB l2,← Array.toList_push] at mm
      refine Tr.if (fun c1 => ?_) fun c1 => ?_
      ·have c1 : ia + 1 + 1 = a.size:=eq_of_beq c1
       exact Tr.pure (p1 _ _ _ _ _ _ _ _ (MEnd.lo' eo mm fun y hy=>one c1 y (List.mem_of_mem_drop hy)))
      have c1 : ia + 1 + 1 ≠ a.size:=fun z=>c1 (beq_iff_eq.mpr z)
      have L : MLo lt κ it q pd a b (x + 1) (out.push (kas_item it (a.getD ia 0))) (ia + 1) ib (SS κ it q pd mg):=⟨_,_,eo,rfl,by omega,l2,by omega,mm⟩
      exact Tr.ite (Tr.pure (p2 _ _ _ _ _ _ _ L)) (Tr.pure (p3 _ _ _ _ _ _ _ L))
     clear_value jp3
     have low : k < b.size - (ib + 1) → lt (b.getD (ib + 1 + k) 0) (a.getD ia 0) = false:=fun z=>by simpa only [Bey,if_true] using k2 k (Nat.le_refl _) z
     rw [drop_split b.toList (ib + 1) k,dA (i:=ia) (by omega)] at mm
     have mm:=mm.takeR W fun y hy=>by
      obtain ⟨j,hj,rfl⟩:=mem_take_drop (by omega) hy
      exact W.asym _ _ (by simpa only [Bey,if_true] using k1 j hj)
     rw [← dA (i:=ia) (by omega),← ext_take,← Array.toList_append (xs:=o.push (b.getD ib 0))] at mm
     refine Tr.if (fun c2 => ?_) fun c2 => ?_
     ·have eo : ou = (o.push (b.getD ib 0) ++ b.extract (ib + 1) (ib + 1 + k)).map (kas_item it):=by
       show out.push (kas_item it (b.getD ib 0)) ++ (Array.map (kas_item it) b).extract (ib + 1) (ib + 1 + k) = _
       rw [eo,Array.map_append,Array.map_extract]
      refine Tr.if (fun c2 => ?_) fun c2 => ?_
      ·have c2 : ib + 1 + k = b.size:=eq_of_beq c2
       exact Tr.pure (p1 _ _ _ _ _ _ _ _ (MEnd.lo eo mm (by rw [nil c2]; intro _ _ y hy; cases hy)))
      have c2 : ib + 1 + k ≠ b.size:=fun z=>c2 (beq_iff_eq.mpr z)
      exact hj3 _ _ _ (ib + 1 + k) eo (by omega) (by omega) (low (by omega)) mm
     ·obtain rfl : k = 0:=by omega
      have : o.push (b.getD ib 0) ++ b.extract (ib + 1) (ib + 1 + 0) = o.push (b.getD ib 0):=by simp; omega
      rw [this] at mm
      exact hj3 _ _ _ (ib + 1) eo (by omega) (by omega) (low (by omega)) mm
    clear_value jp2
    have low : k < a.size - ia → lt (b.getD ib 0) (a.getD (ia + k) 0) = true:=fun z=>by simpa only [Bey,Bool.false_eq_true,if_false,Bool.not_eq_false'] using k2 k (Nat.le_refl _) z
    rw [drop_split _ _ k,dB l2] at mm
    have mm:=mm.takeL W fun y hy=>by
     obtain ⟨j,hj,rfl⟩:=mem_take_drop (by omega) hy
     simpa only [Bey,Bool.false_eq_true,if_false,Bool.not_eq_true'] using k1 j hj
    rw [← dB l2,← ext_take,← Array.toList_append (xs:=o)] at mm
    refine Tr.if (fun c1 => ?_) fun c1 => ?_
    ·have eo : ou = (o ++ a.extract ia (ia + k)).map (kas_item it):=by
      show Array.map (kas_item it) o ++ (Array.map (kas_item it) a).extract ia (ia + k) = _
      simp
     refine Tr.if (fun c1 => ?_) fun c1 => ?_
     ·have c1 : ia + k + 1 = a.size:=eq_of_beq c1
      exact Tr.pure (p1 _ _ _ _ _ _ _ _ (MEnd.lo' eo mm fun y hy=>one c1 y (List.mem_of_mem_drop hy)))
     refine Tr.if (fun c2 => ?_) fun c2 => ?_
     ·have c2 : ia + k = a.size:=eq_of_beq c2
      exact Tr.pure (p1 _ _ _ _ _ _ _ _ (MEnd.lo eo mm (by rw [nil c2]; intro _ hx; cases hx)))
     have c1 : ia + k + 1 ≠ a.size:=fun z=>c1 (beq_iff_eq.mpr z)
     have c2 : ia + k ≠ a.size:=fun z=>c2 (beq_iff_eq.mpr z)
     exact hj2 _ _ _ (ia + k) eo (by omega) (by omega) (low (by omega)) mm
    ·obtain rfl : k = 0:=by omega
     have : o ++ a.extract ia (ia + 0) = o:=by simp; omega
     rw [this] at mm
     exact hj2 _ _ _ ia rfl l1 (by omega) (low (by omega)) mm
   clear_value jp
   exact Tr.ite (hj _ _ _ (fun r o ia ib mg k k' st h => .inl ⟨r,rfl,h⟩) (fun zz zz zz zz zz zz zz h => .inr ⟨rfl,h⟩) fun zz zz zz zz zz zz zz h=>⟨rfl,h⟩) (hj _ _ _ (fun r o ia ib mg k k' st h => .inl ⟨r,rfl,h⟩) (fun zz zz zz zz zz zz zz h => .inr ⟨rfl,h⟩) fun zz zz zz zz zz zz zz h=>⟨rfl,h⟩)
  ·refine pE7 ?_; rintro r out ia ib mg acount bcount st' (⟨r',rfl,hR⟩ | ⟨rfl,o,g',rfl,rfl,l1,l2,l3,mm⟩)
   ·exact Tr.pure ⟨_,rfl,hR⟩
   ·exact (Tr.bM (Tr.pure ⟨rfl,o,_,rfl,rfl,l1,l2,l3,mm⟩))
 ·refine pE5 ?_; rintro r out ia ib mg st' ⟨_,o,g',_,_,l1,l2,l3,mm⟩
  dsimp only at l1 l2 l3
  omega
 ·refine pE5 ?_; rintro r out ia ib mg st' ⟨r',rfl,hR⟩
  exact Tr.pure (h _ _ hR)
end
end Mine
end
section
namespace Mine
theorem rev_cons {l : List Nat} {i : Nat} (h : i < l.length) : (l.take (i + 1)).reverse = l.getD i 0 :: (l.take i).reverse:=by
 rw [List.take_succ_eq_append_getElem h,List.reverse_append]
 simp [List.getD,h]
theorem rev_split (l : List Nat) {i k : Nat} (h : i ≤ k) : (l.take k).reverse = ((l.drop i).take (k - i)).reverse ++ (l.take i).reverse:=by
 rw [← List.reverse_append,← List.drop_take]
 conv=>lhs; rw [← List.take_append_drop i (l.take k)]
 rw [List.take_take,Nat.min_eq_left h]
theorem ext0_toList (a : Array Nat) (i : Nat) : (a.extract 0 i).toList = a.toList.take i:=by simp
section
variable {prog : Program} {w : World} {A : Around} {E : Value → Shared → Prop} {G : Shared → Prop} {κ : SortKind} {it : Array Keyed} {N : Nat} {lt : Nat → Nat → Bool}
inductive MHi (lt : Nat → Nat → Bool) (κ : SortKind) (it : Array Keyed) (q : Array Nat) (pd : Array (Nat × Nat × Nat)) (a b : Array Nat) (x : Nat) (out : Array Keyed) (na nb : Nat) (st : SortSt) : Prop
 | mk (o : Array Nat) (g : Nat) : out = o.map (kas_item it) → st = SS κ it q pd g → 1 ≤ na → na ≤ a.size → 2 ≤ nb → nb ≤ b.size → x + 1 + (na + nb) ≤ a.size + b.size → Mg (fun i j=>lt j i) (a.toList ++ b.toList) o.toList (a.toList.take na).reverse (b.toList.take nb).reverse → MHi lt κ it q pd a b x out na nb st
theorem MEnd.hi {q : Array Nat} {pd : Array (Nat × Nat × Nat)} {a b o : Array Nat} {na nb g : Nat} (m : Mg (fun i j=>lt j i) (a.toList ++ b.toList) o.toList (a.toList.take na).reverse (b.toList.take nb).reverse) (h : ∀ y ∈ (b.toList.take nb).reverse,∀ x ∈ (a.toList.take na).reverse,lt y x = false) :
  MEnd lt κ it q pd (a.toList ++ b.toList) ((a.map (kas_item it)).extract 0 na ++ (b.map (kas_item it)).extract 0 nb ++ (o.map (kas_item it)).reverse) (SS κ it q pd g):=by
 have e : (a.extract 0 na ++ b.extract 0 nb ++ o.reverse).toList = (o.toList ++ ((b.toList.take nb).reverse ++ (a.toList.take na).reverse)).reverse:=by
  simp only [Array.toList_append,ext0_toList,Array.toList_reverse,List.reverse_append,List.reverse_reverse]
 refine ⟨a.extract 0 na ++ b.extract 0 nb ++ o.reverse,g,by simp,rfl, ?_, ?_⟩
 ·rw [e]
  exact (List.reverse_perm _).trans m.swap.pm
 ·rw [e]
  exact List.pairwise_reverse.mpr (m.swap.done h)
theorem MEnd.hi' {q : Array Nat} {pd : Array (Nat × Nat × Nat)} {a b o : Array Nat} {na nb g : Nat} (m : Mg (fun i j=>lt j i) (a.toList ++ b.toList) o.toList (a.toList.take na).reverse (b.toList.take nb).reverse) (h : ∀ x ∈ (a.toList.take na).reverse,∀ y ∈ (b.toList.take nb).reverse,lt x y = false) :
  MEnd lt κ it q pd (a.toList ++ b.toList) ((b.map (kas_item it)).extract 0 nb ++ (a.map (kas_item it)).extract 0 na ++ (o.map (kas_item it)).reverse) (SS κ it q pd g):=by
 have e : (b.extract 0 nb ++ a.extract 0 na ++ o.reverse).toList = (o.toList ++ ((a.toList.take na).reverse ++ (b.toList.take nb).reverse)).reverse:=by
  simp only [Array.toList_append,ext0_toList,Array.toList_reverse,List.reverse_append,List.reverse_reverse]
 refine ⟨b.extract 0 nb ++ a.extract 0 na ++ o.reverse,g,by simp,rfl, ?_, ?_⟩
 ·rw [e]
  exact (List.reverse_perm _).trans m.pm
 ·rw [e]
  exact List.pairwise_reverse.mpr (m.done h)
theorem Tr.mergeHi (W : WOrd lt) (hc : CmpOk prog w A G κ it N lt) {a b q : Array Nat} {pd : Array (Nat × Nat × Nat)} {g : Nat} {Q : Array Keyed → SortSt → Prop} (ha : InN N a) (hb : InN N b) (sa : Sor lt a.toList) (sb : Sor lt b.toList) (a1 : 1 ≤ a.size) (b1 : 1 ≤ b.size)
  (h1 : ∀ x ∈ a.toList,lt x (b.getD 0 0) = false) (h2 : ∀ x ∈ b.toList,lt (a.getD (a.size - 1) 0) x = false) (h : ∀ r st,MEnd lt κ it q pd (a.toList ++ b.toList) r st → Q r st) :
  Tr prog w A E G (mergeHiP (a.map (kas_item it)) (b.map (kas_item it))) Q (SS κ it q pd g):=by
 have W':=W.flip
 refine Tr.bR ?_
 rw [Array.size_map,Array.size_map]
 refine Tr.bE (p:=a) (i:=a.size - 1) (by omega) ?_
 have dA : ∀ {i : Nat},1 ≤ i → i ≤ a.size → (a.toList.take i).reverse = a.getD (i - 1) 0 :: (a.toList.take (i - 1)).reverse:=fun {i} e e'=>by
  have:=rev_cons (l:=a.toList) (i:=i - 1) (by rw [Array.length_toList]; omega)
  rwa [show i - 1 + 1 = i by omega,← arr_getD] at this
 have dB : ∀ {i : Nat},1 ≤ i → i ≤ b.size → (b.toList.take i).reverse = b.getD (i - 1) 0 :: (b.toList.take (i - 1)).reverse:=fun {i} e e'=>by
  have:=rev_cons (l:=b.toList) (i:=i - 1) (by rw [Array.length_toList]; omega)
  rwa [show i - 1 + 1 = i by omega,← arr_getD] at this
 have m0 : Mg (fun i j=>lt j i) (a.toList ++ b.toList) #[a.getD (a.size - 1) 0].toList (a.toList.take (a.size - 1)).reverse (b.toList.take b.size).reverse:=by
  have e:=dA (i:=a.size) a1 (Nat.le_refl _)
  have tA : a.toList.take a.size = a.toList:=List.take_of_length_le (by walk_at "ms")
  have tB : b.toList.take b.size = b.toList:=List.take_of_length_le (by walk_at "ms")
  rw [tA] at e
  rw [tB]
  refine ⟨?_,List.pairwise_cons.mpr ⟨fun x hx=>h2 x (List.mem_reverse.mp hx),List.pairwise_reverse.mpr sb⟩, ?_⟩
  ·show Sor _ (a.getD (a.size - 1) 0 :: (a.toList.take (a.size - 1)).reverse)
   rw [← e]
   exact List.pairwise_reverse.mpr sa
  ·show (a.getD (a.size - 1) 0 :: ((a.toList.take (a.size - 1)).reverse ++ b.toList.reverse)).Perm (a.toList ++ b.toList)
   rw [← List.cons_append,← e]
   exact (List.reverse_perm _).append (List.reverse_perm _)
 have nil : ∀ {c : Array Nat} {i : Nat},i = 0 → (c.toList.take i).reverse = []:=fun {c i} e=>by rw [e]; rfl
 have one : ∀ {i na : Nat},i = 1 → ∀ x ∈ (a.toList.take na).reverse,∀ y ∈ (b.toList.take i).reverse,lt x y = false:=fun {i na} e x hx y hy=>by
  rw [dB (i:=i) (by omega) (by omega),nil (by omega)] at hy
  obtain rfl:=List.mem_singleton.mp hy
  rw [e]
  exact h1 x (List.mem_of_mem_take (List.mem_reverse.mp hx))
 rw [show #[kas_item it (a.getD (a.size - 1) 0)] = (#[a.getD (a.size - 1) 0]).map (kas_item it) by simp]
 refine Tr.if (fun c1 => ?_) fun c1 => ?_
 ·have c1 : a.size - 1 = 0:=eq_of_beq c1
  exact Tr.pure (h _ _ (MEnd.hi m0 (by rw [nil c1]; intro _ _ y hy; cases hy)))
 refine Tr.if (fun c2 => ?_) fun c2 => ?_
 ·have c2 : b.size = 1:=eq_of_beq c2
  exact Tr.pure (h _ _ (MEnd.hi' m0 (one c2)))
 have c1 : a.size - 1 ≠ 0:=fun z=>c1 (beq_iff_eq.mpr z)
 have c2 : b.size ≠ 1:=fun z=>c2 (beq_iff_eq.mpr z)
 refine Tr.bG ?_
 have push : ∀ (o : Array Nat) (x : Nat),(o.map (kas_item it)).push (kas_item it x) = (o.push x).map (kas_item it):=fun o x=>by simp
 refine Tr.bind (Tr.mono (Tr.for (Q:=fun c st => ∃ r,c.1 = some r ∧ MEnd lt κ it q pd (a.toList ++ b.toList) r st) (fun x c st=>c.1 = none ∧ MHi lt κ it q pd a b x c.2.2.2.1 c.2.1 c.2.2.1 st) (Nat.zero_le _) ⟨rfl,#[a.getD (a.size - 1) 0],g,rfl,rfl,(by omega : 1 ≤ a.size - 1),(by omega : a.size - 1 ≤ a.size),(by omega : 2 ≤ b.size),Nat.le_refl _,(by omega : 0 + 1 + (a.size - 1 + b.size) ≤ a.size + b.size),m0⟩ ?_ ?_) ?_)
 ·intro x; refine pE5 ?_; rintro r na nb out mg st' _ hx ⟨rfl,hL⟩
  dsimp only at hL
  refine Tr.bind (Tr.mono (Tr.for (Q:=fun c st=>(∃ r,c.1 = some r ∧ MEnd lt κ it q pd (a.toList ++ b.toList) r st) ∨ (c.1 = none ∧ MHi lt κ it q pd a b (x + 1) c.2.2.2.1 c.2.1 c.2.2.1 st)) (fun y c st=>c.1 = none ∧ MHi lt κ it q pd a b (x + y) c.2.2.2.1 c.2.1 c.2.2.1 st) (Nat.zero_le _) ⟨rfl,hL⟩ ?_ ?_) ?_)
  ·intro y; refine pE6 ?_; rintro r na nb out acount bcount st' _ hy ⟨rfl,o,g',rfl,rfl,l1,l2,l3,l4,l5,mm⟩
   dsimp only [beq_iff_eq] at mm l1 l2 l3 l4 l5 ⊢
   simp only [beq_iff_eq]
   refine Tr.bE (i:=nb - 1) (by omega) ?_
   refine Tr.bE (i:=na - 1) (by omega) ?_
   refine Tr.bA hc (hb _ (by omega)) (ha _ (by omega)) ?_
   dsimp only
   rw [dA (i:=na) l1 l2,dB (i:=nb) (by omega) l4] at mm
   cases c : lt (b.getD (nb - 1) 0) (a.getD (na - 1) 0) with
   | true =>
    simp only [if_true]
    refine Tr.bE (i:=na - 1) (by omega) ?_
    have mm:=mm.takeL W' (Y1:=[a.getD (na - 1) 0]) (Y2:=(a.toList.take (na - 1)).reverse) (fun z hz=>by rw [List.mem_singleton.mp hz]; exact W.asym _ _ c)
    rw [← dB (i:=nb) (by omega) l4,← Array.toList_push] at mm
    rw [push]
    by_cases c1 : na - 1 = 0
    ·rw [if_pos c1]
     exact Tr.pure (.inl ⟨_,rfl,MEnd.hi mm (by rw [nil c1]; intro _ _ y hy; cases hy)⟩)
    rw [if_neg c1]
    have L : MHi lt κ it q pd a b (x + (y + 1)) ((o.push (a.getD (na - 1) 0)).map (kas_item it)) (na - 1) nb (SS κ it q pd g'):=⟨_,_,rfl,rfl,by omega,by omega,l3,l4,by omega,mm⟩
    exact Tr.ite (Tr.pure (.inr ⟨rfl,_,_,rfl,rfl,(by omega : 1 ≤ na - 1),(by omega : na - 1 ≤ a.size),l3,l4,(by omega : x + 1 + 1 + (na - 1 + nb) ≤ a.size + b.size),mm⟩)) (Tr.pure ⟨rfl,L⟩)
   | false =>
    simp only [Bool.false_eq_true,if_false]
    refine Tr.bE (i:=nb - 1) (by omega) ?_
    have mm:=mm.takeR W' (Z1:=[b.getD (nb - 1) 0]) (Z2:=(b.toList.take (nb - 1)).reverse) (fun z hz=>by rw [List.mem_singleton.mp hz]; exact c)
    rw [← dA (i:=na) l1 l2,← Array.toList_push] at mm
    rw [push]
    by_cases c1 : nb - 1 = 1
    ·rw [if_pos c1]
     exact Tr.pure (.inl ⟨_,rfl,MEnd.hi' mm (one c1)⟩)
    rw [if_neg c1]
    have L : MHi lt κ it q pd a b (x + (y + 1)) ((o.push (b.getD (nb - 1) 0)).map (kas_item it)) na (nb - 1) (SS κ it q pd g'):=⟨_,_,rfl,rfl,l1,l2,by omega,by omega,by omega,mm⟩
    exact Tr.ite (Tr.pure (.inr ⟨rfl,_,_,rfl,rfl,l1,l2,(by omega : 2 ≤ nb - 1),(by omega : nb - 1 ≤ b.size),(by omega : x + 1 + 1 + (na + (nb - 1)) ≤ a.size + b.size),mm⟩)) (Tr.pure ⟨rfl,L⟩)
  ·refine pE6 ?_; rintro r na nb out acount bcount st' ⟨e,o,g',e1,e2,l1,l2,l3,l4,l5,mm⟩
   exact .inr ⟨e,o,g',e1,e2,l1,l2,l3,l4,by omega,mm⟩
  refine pE6 ?_; rintro r na nb out acount bcount st' (⟨r',rfl,hR⟩ | ⟨rfl,hL⟩)
  ·exact Tr.pure ⟨_,rfl,hR⟩
  dsimp only at hL
  refine Tr.bR ?_
  refine Tr.bind (Tr.mono (Tr.for (Q:=fun c st=>(∃ r,c.1 = some r ∧ MEnd lt κ it q pd (a.toList ++ b.toList) r st) ∨ (c.1 = none ∧ MHi lt κ it q pd a b (x + 1) c.2.2.2.1 c.2.1 c.2.2.1 st)) (fun zz c st=>c.1 = none ∧ MHi lt κ it q pd a b (x + 1) c.2.2.2.1 c.2.1 c.2.2.1 st) (Nat.zero_le _) ⟨rfl,hL⟩ ?_ fun zz zz h => .inr h) ?_)
  ·intro y; refine pE7 ?_; rintro r na nb out mg acount bcount st' _ hy ⟨rfl,o,g',rfl,rfl,l1,l2,l3,l4,l5,mm⟩
   dsimp only at mm l1 l2 l3 l4 l5
   dsimp -zeta -zetaHave only
   extract_lets -underBinder -merge s1 s2 s3 s4 s5 s6 s7 s8 s9 s10 s11 jp
   have hj : ∀ u mg (PF : ForInStep (Option (Array Keyed) × Nat × Nat × Array Keyed × Nat × Nat × Nat) → SortSt → Prop),(∀ r o na nb mg k k' st,MEnd lt κ it q pd (a.toList ++ b.toList) r st → PF (.done (some r,na,nb,o,mg,k,k')) st) → (∀ o na nb mg k k' st,MHi lt κ it q pd a b (x + 1) o na nb st → PF (.done (none,na,nb,o,mg,k,k')) st) →
     (∀ o na nb mg k k' st,MHi lt κ it q pd a b (x + 1) o na nb st → PF (.yield (none,na,nb,o,mg,k,k')) st) → Tr prog w A E G (jp u mg) PF (SS κ it q pd g'):=by
    intro u mg PF p1 p2 p3
    refine Tr.bM ?_
    refine Tr.bE (i:=nb - 1) (by omega) ?_
    refine Tr.bind (Tr.gallop (base:=0) (n:=na) (hint:=na - 1) hc ha (hb _ (by omega)) (by omega) (by omega) (fun i j hij hj e => ?_) fun k hk k1 k2 => ?_)
    ·simp only [Bey,Bool.false_eq_true,if_false,Bool.not_eq_true'] at e ⊢
     exact W.tr _ _ _ (sa.get W (by omega : 0 + i ≤ 0 + j) (by omega)) e
    simp only [Nat.zero_add] at k1 k2
    dsimp -zeta -zetaHave only
    extract_lets -underBinder -merge kk ac jp2 ou na2
    have hj2 : ∀ u (o : Array Nat) na,1 ≤ na → na ≤ a.size → x + 2 + (na + nb) ≤ a.size + b.size → lt (b.getD (nb - 1) 0) (a.getD (na - 1) 0) = false → Mg (fun i j=>lt j i) (a.toList ++ b.toList) o.toList (a.toList.take na).reverse (b.toList.take nb).reverse → Tr prog w A E G (jp2 u na (o.map (kas_item it))) PF (SS κ it q pd mg):=by
     intro u o na l1 l2 l5 low mm
     refine Tr.bE (i:=nb - 1) (by omega) ?_
     rw [dA (i:=na) l1 l2,dB (i:=nb) (by omega) l4] at mm
     have mm:=mm.takeR W' (Z1:=[b.getD (nb - 1) 0]) (Z2:=(b.toList.take (nb - 1)).reverse) (fun z hz=>by rw [List.mem_singleton.mp hz]; exact low)
     rw [← dA (i:=na) l1 l2,← Array.toList_push] at mm
     rw [push]
     refine Tr.if (fun c1 => ?_) fun c1 => ?_
     ·have c1 : nb - 1 = 1:=eq_of_beq c1
      exact Tr.pure (p1 _ _ _ _ _ _ _ _ (MEnd.hi' mm (one c1)))
     have c1 : nb - 1 ≠ 1:=fun z=>c1 (beq_iff_eq.mpr z)
     refine Tr.bE (i:=na - 1) (by omega) ?_
     refine Tr.bind (Tr.gallop (base:=0) (n:=nb - 1) (hint:=nb - 1 - 1) hc hb (ha _ (by omega)) (by omega) (by omega) (fun i j hij hj e => ?_) fun k hk k1 k2 => ?_)
     ·simp only [Bey,if_true] at e ⊢
      exact W.lele (sb.get W (by omega : 0 + i ≤ 0 + j) (by omega)) e
     simp only [Nat.zero_add] at k1 k2
     dsimp -zeta -zetaHave only
     extract_lets -underBinder -merge kk bc jp3 ou nb2
     have hj3 : ∀ u (o : Array Nat) nb,2 ≤ nb → nb ≤ b.size → x + 2 + (na + nb) ≤ a.size + b.size → lt (a.getD (na - 1) 0) (b.getD (nb - 1) 0) = false → Mg (fun i j=>lt j i) (a.toList ++ b.toList) o.toList (a.toList.take na).reverse (b.toList.take nb).reverse → Tr prog w A E G (jp3 u nb (o.map (kas_item it))) PF (SS κ it q pd mg):=by
      intro u o nb l3 l4 l5 low mm
      refine Tr.bE (i:=na - 1) (by omega) ?_
      rw [dA (i:=na) l1 l2,dB (i:=nb) (by omega) l4] at mm
      have mm:=mm.takeL W' (Y1:=[a.getD (na - 1) 0]) (Y2:=(a.toList.take (na - 1)).reverse) (fun z hz=>by rw [List.mem_singleton.mp hz]; exact low)
      rw [← dB (i:=nb) (by omega) l4,← Array.toList_push] at mm
      rw [push]
      refine Tr.if (fun c1 => ?_) fun c1 => ?_
      ·have c1 : na - 1 = 0:=eq_of_beq c1
       exact Tr.pure (p1 _ _ _ _ _ _ _ _ (MEnd.hi mm (by rw [nil c1]; intro _ _ y hy; cases hy)))
      have c1 : na - 1 ≠ 0:=fun z=>c1 (beq_iff_eq.mpr z)
      have L : MHi lt κ it q pd a b (x + 1) ((o.push (a.getD (na - 1) 0)).map (kas_item it)) (na - 1) nb (SS κ it q pd mg):=⟨_,_,rfl,rfl,by omega,by omega,l3,l4,by omega,mm⟩
      exact Tr.ite (Tr.pure (p2 _ _ _ _ _ _ _ L)) (Tr.pure (p3 _ _ _ _ _ _ _ L))
     clear_value jp3
     have low : 1 ≤ k → lt (a.getD (na - 1) 0) (b.getD (k - 1) 0) = false:=fun z=>W.asym _ _ (by simpa only [Bey,if_true] using k1 (k - 1) (by omega))
     rw [rev_split b.toList hk,dA (i:=na) l1 l2] at mm
     have mm:=mm.takeR W' fun y hy=>by
      obtain ⟨j,hj,rfl⟩:=mem_take_drop (by omega) (List.mem_reverse.mp hy)
      simpa only [Bey,if_true] using k2 (k + j) (by omega) (by omega)
     rw [← dA (i:=na) l1 l2,← ext_take,← Array.toList_reverse,← Array.toList_append (xs:=o.push (b.getD (nb - 1) 0)),show k + (nb - 1 - k) = nb - 1 by omega] at mm
     refine Tr.if (fun c2 => ?_) fun c2 => ?_
     ·have eo : ou = (o.push (b.getD (nb - 1) 0) ++ (b.extract k (nb - 1)).reverse).map (kas_item it):=by
       show Array.map (kas_item it) (o.push (b.getD (nb - 1) 0)) ++ ((Array.map (kas_item it) b).extract k (nb - 1)).reverse = _
       rw [Array.map_append,Array.map_reverse,Array.map_extract]
      rw [eo]
      refine Tr.if (fun c2 => ?_) fun c2 => ?_
      ·have c2 : k = 1:=eq_of_beq c2
       exact Tr.pure (p1 _ _ _ _ _ _ _ _ (MEnd.hi' mm (one c2)))
      refine Tr.if (fun c3 => ?_) fun c3 => ?_
      ·have c3 : k = 0:=eq_of_beq c3
       exact Tr.pure (p1 _ _ _ _ _ _ _ _ (MEnd.hi mm (by rw [nil (c:=b) c3]; intro _ hy; cases hy)))
      have c2 : k ≠ 1:=fun z=>c2 (beq_iff_eq.mpr z)
      have c3 : k ≠ 0:=fun z=>c3 (beq_iff_eq.mpr z)
      exact hj3 _ _ k (by omega) (by omega) (by omega) (low (by omega)) mm
     ·have c2 : ¬ nb - 1 - k > 0:=c2
      obtain rfl : k = nb - 1:=by omega
      have : o.push (b.getD (nb - 1) 0) ++ (b.extract (nb - 1) (nb - 1)).reverse = o.push (b.getD (nb - 1) 0):=by simp; omega
      rw [this] at mm
      exact hj3 _ _ (nb - 1) (by omega) (by omega) (by omega) (low (by omega)) mm
    clear_value jp2
    have low : 1 ≤ k → lt (b.getD (nb - 1) 0) (a.getD (k - 1) 0) = false:=fun z=>by simpa only [Bey,Bool.false_eq_true,if_false,Bool.not_eq_true'] using k1 (k - 1) (by omega)
    rw [rev_split a.toList hk,dB (i:=nb) (by omega) l4] at mm
    have mm:=mm.takeL W' fun y hy=>by
     obtain ⟨j,hj,rfl⟩:=mem_take_drop (by omega) (List.mem_reverse.mp hy)
     exact W.asym _ _ (by simpa only [Bey,Bool.false_eq_true,if_false,Bool.not_eq_false'] using k2 (k + j) (by omega) (by omega))
    rw [← dB (i:=nb) (by omega) l4,← ext_take,← Array.toList_reverse,← Array.toList_append (xs:=o),show k + (na - k) = na by omega] at mm
    refine Tr.if (fun c1 => ?_) fun c1 => ?_
    ·have eo : ou = (o ++ (a.extract k na).reverse).map (kas_item it):=by
      show Array.map (kas_item it) o ++ ((Array.map (kas_item it) a).extract k na).reverse = _
      rw [Array.map_append,Array.map_reverse,Array.map_extract]
     rw [eo]
     refine Tr.if (fun c2 => ?_) fun c2 => ?_
     ·have c2 : k = 0:=eq_of_beq c2
      exact Tr.pure (p1 _ _ _ _ _ _ _ _ (MEnd.hi mm (by rw [nil (c:=a) c2]; intro _ _ y hy; cases hy)))
     have c2 : k ≠ 0:=fun z=>c2 (beq_iff_eq.mpr z)
     exact hj2 _ _ k (by omega) (by omega) (by omega) (low (by omega)) mm
    ·have c1 : ¬ na - k > 0:=c1
     obtain rfl : k = na:=by omega
     have : o ++ (a.extract k k).reverse = o:=by simp; omega
     rw [this] at mm
     exact hj2 _ _ k l1 l2 (by omega) (low (by omega)) mm
   clear_value jp
   exact Tr.ite (hj _ _ _ (fun r o ia ib mg k k' st h => .inl ⟨r,rfl,h⟩) (fun zz zz zz zz zz zz zz h => .inr ⟨rfl,h⟩) fun zz zz zz zz zz zz zz h=>⟨rfl,h⟩) (hj _ _ _ (fun r o ia ib mg k k' st h => .inl ⟨r,rfl,h⟩) (fun zz zz zz zz zz zz zz h => .inr ⟨rfl,h⟩) fun zz zz zz zz zz zz zz h=>⟨rfl,h⟩)
  ·refine pE7 ?_; rintro r na nb out mg acount bcount st' (⟨r',rfl,hR⟩ | ⟨rfl,o,g',rfl,rfl,l1,l2,l3,l4,l5,mm⟩)
   ·exact Tr.pure ⟨_,rfl,hR⟩
   ·exact (Tr.bM (Tr.pure ⟨rfl,o,_,rfl,rfl,l1,l2,l3,l4,l5,mm⟩))
 ·refine pE5 ?_; rintro r na nb out mg st' ⟨_,o,g',_,_,l1,l2,l3,l4,l5,mm⟩
  dsimp only at l1 l2 l3 l4 l5
  omega
 ·refine pE5 ?_; rintro r na nb out mg st' ⟨r',rfl,hR⟩
  exact Tr.pure (h _ _ hR)
end
end Mine
end
section
namespace Mine
theorem mid_ext {p : Array Nat} {U V Z : List Nat} (e : p.toList = U ++ (V ++ Z)) {i j : Nat} (hi : i = U.length) (hj : j = i + V.length) : (p.extract i j).toList = V:=by
 subst hi hj
 rw [Array.toList_extract,e]
 simp
theorem mid_at {p : Array Nat} {U V Z : List Nat} (e : p.toList = U ++ (V ++ Z)) {i k : Nat} (hk : k < V.length) (hi : i = U.length) : p.getD (i + k) 0 = V.getD k 0:=by
 subst hi
 rw [arr_getD,e]
 rw [List.getD,List.getD,List.getElem?_append_right (by omega),List.getElem?_append_left (by omega),Nat.add_sub_cancel_left]
theorem Sor.getL {lt : Nat → Nat → Bool} (w : WOrd lt) {l : List Nat} (s : Sor lt l) {i j : Nat} (h : i ≤ j) (hj : j < l.length) : lt (l.getD j 0) (l.getD i 0) = false:=by
 have:=Sor.get w (a:=l.toArray) (by simpa using s) h (by simpa using hj)
 simpa only [arr_getD] using this
theorem lay_map (f : Nat → Keyed) (s : Nat) : ∀ (l : List Nat) (k : Nat) (p : Array Nat),((l.map f).zipIdx k).foldl (fun a x=>a.setIfInBounds (s + x.2) x.1) (p.map f) = ((l.zipIdx k).foldl (fun a x=>a.setIfInBounds (s + x.2) x.1) p).map f
 | [],k,p=>rfl
 | x :: l,k,p=>by
  rw [List.map_cons,List.zipIdx_cons,List.zipIdx_cons,List.foldl_cons,List.foldl_cons,← Array.map_setIfInBounds]
  exact lay_map f s l (k + 1) _
theorem lay_list (s : Nat) : ∀ (l : List Nat) (k : Nat) (p : Array Nat),s + k + l.length ≤ p.size → ((l.zipIdx k).foldl (fun a x=>a.setIfInBounds (s + x.2) x.1) p).toList = p.toList.take (s + k) ++ (l ++ p.toList.drop (s + k + l.length))
 | [],k,p,_=>by simp
 | x :: l,k,p,h=>by
  have h' : s + k + (l.length + 1) ≤ p.size:=h
  rw [List.zipIdx_cons,List.foldl_cons,lay_list s l (k + 1) _ (by rw [Array.size_setIfInBounds]; omega)]
  simp only [Array.toList_setIfInBounds,List.length_cons]
  rw [List.set_eq_take_append_cons_drop,if_pos (by rw [Array.length_toList]; omega)]
  have hT : (p.toList.take (s + k)).length = s + k:=by rw [List.length_take,Array.length_toList]; omega
  have hD : p.toList.drop (s + k + (l.length + 1)) = (p.toList.drop (s + k + 1)).drop l.length:=by rw [List.drop_drop]; congr 1; omega
  rw [hD,show s + (k + 1) = s + k + 1 by omega]
  generalize p.toList.take (s + k) = T at hT
  generalize p.toList.drop (s + k + 1) = D
  rw [← hT]
  simp [List.take_append,List.drop_append,List.take_of_length_le,List.drop_of_length_le,Nat.add_assoc,Nat.add_comm 1]
section
variable {prog : Program} {w : World} {A : Around} {E : Value → Shared → Prop} {G : Shared → Prop} {κ : SortKind} {it : Array Keyed} {N : Nat} {lt : Nat → Nat → Bool}
theorem Sor.join (s : Sor lt Y) (s' : Sor lt Z) (h : ∀ y ∈ Y,∀ z ∈ Z,lt z y = false) : Sor lt (Y ++ Z):=List.pairwise_append.mpr ⟨s,s',h⟩
theorem Tr.mergeAt (W : WOrd lt) (hc : CmpOk prog w A G κ it N lt) {p : Array Nat} {pd : Array (Nat × Nat × Nat)} {X Y : List (Nat × Nat × Nat)} {pre RA RB post : List Nat} {pw pw2 g : Nat} {Q : Bool → SortSt → Prop} (hp : InN N p)
  (e : p.toList = pre ++ (RA ++ (RB ++ post))) (epd : pd.toList = X ++ (pre.length,RA.length,pw) :: (pre.length + RA.length,RB.length,pw2) :: Y) (sa : Sor lt RA) (sb : Sor lt RB) (a1 : 1 ≤ RA.length) (b1 : 1 ≤ RB.length)
  (h : ∀ (p' : Array Nat) (pd' : Array (Nat × Nat × Nat)) (g' : Nat) (RC : List Nat),p'.toList = pre ++ (RC ++ post) → pd'.toList = X ++ (pre.length,RA.length + RB.length,pw) :: Y → RC.Perm (RA ++ RB) → Sor lt RC → Q true (SS κ it p' pd' g')) :
  Tr prog w A E G (mergeAt' X.length) Q (SS κ it p pd g):=by
 have e1 : pd[X.length]? = some (pre.length,RA.length,pw):=by rw [← Array.getElem?_toList,epd]; simp
 have e2 : pd[X.length + 1]? = some (pre.length + RA.length,RB.length,pw2):=by rw [← Array.getElem?_toList,epd]; simp
 have epd' : ((pd.setIfInBounds X.length (pre.length,RA.length + RB.length,pw)).eraseIdxIfInBounds (X.length + 1)).toList = X ++ (pre.length,RA.length + RB.length,pw) :: Y:=by
  rw [Array.toList_eraseIdxIfInBounds,Array.toList_setIfInBounds,epd]
  rw [List.set_append_right _ _ (Nat.le_refl _),Nat.sub_self,List.set_cons_zero,List.eraseIdx_append_of_length_le (by omega),Nat.add_sub_cancel_left]
  rfl
 have hsz : p.size = pre.length + (RA.length + (RB.length + post.length)):=by rw [← Array.length_toList,e]; simp
 have eB : p.toList = (pre ++ RA) ++ (RB ++ post):=by rw [e,List.append_assoc]
 have hA : ∀ k,k < RA.length → p.getD (pre.length + k) 0 = RA.getD k 0:=fun k hk=>mid_at e hk rfl
 have hB : ∀ k,k < RB.length → p.getD (pre.length + RA.length + k) 0 = RB.getD k 0:=fun k hk=>mid_at eB hk (by walk_at "ms")
 refine Tr.bG ?_
 have e1' : (pendingOf (SS κ it p pd g))[X.length]? = some (pre.length,RA.length,pw):=e1
 have e2' : (pendingOf (SS κ it p pd g))[X.length + 1]? = some (pre.length + RA.length,RB.length,pw2):=e2
 simp -zeta -zetaHave only [e1',e2']
 generalize hpd : (pd.setIfInBounds X.length (pre.length,RA.length + RB.length,pw)).eraseIdxIfInBounds (X.length + 1) = pd' at epd'
 refine Tr.bind (Tr.set (st':=SS κ it p pd' g) ?_)
 have inA : ∀ k,k < RA.length → RA.getD k 0 < N:=fun k hk=>by rw [← hA k hk]; exact hp _ (by omega)
 have inB : ∀ k,k < RB.length → RB.getD k 0 < N:=fun k hk=>by rw [← hB k hk]; exact hp _ (by omega)
 refine Tr.bE (p:=p) (i:=pre.length + RA.length) (by omega) ?_
 have b0 : p.getD (pre.length + RA.length) 0 = RB.getD 0 0:=hB 0 b1
 rw [b0]
 refine Tr.bind (Tr.gallop (p:=p) (base:=pre.length) (n:=RA.length) (hint:=0) hc hp (inB 0 b1) (by omega) (by omega) (fun i j hij hj e => ?_) fun k hk k1 k2 => ?_)
 ·simp only [Bey,Bool.false_eq_true,if_false,Bool.not_eq_true',hA i (by omega),hA j hj] at e ⊢
  exact W.tr _ _ _ (sa.getL W hij hj) e
 have k1 : ∀ i,i < k → lt (RB.getD 0 0) (RA.getD i 0) = false:=fun i hi=>by
  have:=k1 i hi
  simpa only [Bey,Bool.false_eq_true,if_false,Bool.not_eq_true',hA i (by omega)] using this
 have k2 : ∀ i,k ≤ i → i < RA.length → lt (RB.getD 0 0) (RA.getD i 0) = true:=fun i hi hi'=>by
  have:=k2 i hi hi'
  simpa only [Bey,Bool.false_eq_true,if_false,Bool.not_eq_false',hA i (by omega)] using this
 dsimp only
 have below : ∀ x ∈ RA.take k,∀ y ∈ RB,lt y x = false:=fun x hx y hy=>by
  obtain ⟨i,hi,rfl⟩:=List.mem_iff_getElem.mp hx
  obtain ⟨j,hj,rfl⟩:=List.mem_iff_getElem.mp hy
  have hi' : i < k:=by simp at hi; omega
  have a:=k1 i hi'
  have b:=sb.getL W (Nat.zero_le j) hj
  have:=W.tr _ _ _ a b
  simpa [List.getD,hj,(show i < RA.length by omega)] using this
 refine Tr.if (fun c1 => ?_) fun c1 => ?_
 ·have c1 : RA.length - k = 0:=eq_of_beq c1
  refine Tr.pure (h p pd' g (RA ++ RB) (by rw [e,List.append_assoc]) epd' (List.Perm.refl _) (Sor.join sa sb fun x hx=>below x ?_))
  rw [List.take_of_length_le (by omega)]
  exact hx
 have c1 : RA.length - k ≠ 0:=fun z=>c1 (beq_iff_eq.mpr z)
 refine Tr.bE (p:=p) (i:=pre.length + k + (RA.length - k) - 1) (by omega) ?_
 have a0 : p.getD (pre.length + k + (RA.length - k) - 1) 0 = RA.getD (RA.length - 1) 0:=by
  rw [show pre.length + k + (RA.length - k) - 1 = pre.length + (RA.length - 1) by omega]
  exact hA _ (by omega)
 rw [a0]
 refine Tr.bind (Tr.gallop (p:=p) (base:=pre.length + RA.length) (n:=RB.length) (hint:=RB.length - 1) hc hp (inA _ (by omega)) (by omega) (by omega) (fun i j hij hj e => ?_) fun m hm m1 m2 => ?_)
 ·simp only [Bey,if_true,hB i (by omega),hB j hj] at e ⊢
  exact W.lele (sb.getL W hij hj) e
 have m1 : ∀ i,i < m → lt (RB.getD i 0) (RA.getD (RA.length - 1) 0) = true:=fun i hi=>by
  have:=m1 i hi
  simpa only [Bey,if_true,hB i (by omega)] using this
 have m2 : ∀ i,m ≤ i → i < RB.length → lt (RB.getD i 0) (RA.getD (RA.length - 1) 0) = false:=fun i hi hi'=>by
  have:=m2 i hi hi'
  simpa only [Bey,if_true,hB i hi'] using this
 dsimp only
 have above : ∀ x ∈ RA,∀ y ∈ RB.drop m,lt y x = false:=fun x hx y hy=>by
  obtain ⟨i,hi,rfl⟩:=List.mem_iff_getElem.mp hx
  obtain ⟨j,hj,rfl⟩:=List.mem_iff_getElem.mp hy
  have hj' : m + j < RB.length:=by simp at hj; omega
  have a:=m2 (m + j) (by omega) hj'
  have b:=sa.getL W (i:=i) (j:=RA.length - 1) (by omega) (by omega)
  have:=W.tr _ _ _ b a
  simpa [List.getD,hi,hj'] using this
 refine Tr.if (fun c2 => ?_) fun c2 => ?_
 ·have c2 : m = 0:=eq_of_beq c2
  refine Tr.pure (h p pd' g (RA ++ RB) (by rw [e,List.append_assoc]) epd' (List.Perm.refl _) (Sor.join sa sb fun x hx y hy=>above x hx y ?_))
  rw [c2]
  exact hy
 have c2 : m ≠ 0:=fun z=>c2 (beq_iff_eq.mpr z)
 have spA : RA = RA.take k ++ RA.drop k:=(List.take_append_drop k RA).symm
 have spB : RB = RB.take m ++ RB.drop m:=(List.take_append_drop m RB).symm
 have lA : (RA.take k).length = k:=by rw [List.length_take]; omega
 have lA2 : (RA.drop k).length = RA.length - k:=List.length_drop
 have lB : (RB.take m).length = m:=by rw [List.length_take]; omega
 have x1 : (p.extract (pre.length + k) (pre.length + RA.length)).toList = RA.drop k:=mid_ext (U:=pre ++ RA.take k) (Z:=RB ++ post) (by rw [e,List.append_assoc pre,← List.append_assoc (RA.take k),List.take_append_drop]) (by rw [List.length_append,lA]) (by rw [lA2]; omega)
 have x2 : (p.extract (pre.length + RA.length) (pre.length + RA.length + m)).toList = RB.take m:=mid_ext (U:=pre ++ RA) (Z:=RB.drop m ++ post) (by rw [eB,← List.append_assoc (RB.take m),List.take_append_drop]) (by rw [List.length_append]) (by rw [lB])
 simp only [← Array.map_extract]
 have hx : ∀ i j,i ≤ j → j ≤ p.size → InN N (p.extract i j):=fun i j h1 h2 t ht=>by
  have ht' : i + t < p.size:=by rw [Array.size_extract] at ht; omega
  rw [show (p.extract i j).getD t 0 = p.getD (i + t) 0 by
   rw [Array.size_extract] at ht
   simp [Array.getD,(show t < min j p.size - i by omega),ht']]
  exact hp _ ht'
 have fin : ∀ r st,MEnd lt κ it p pd' (RA.drop k ++ RB.take m) r st → Tr prog w A E G (_root_.modify (fun s=>setArr s (r.toList.zipIdx.foldl (fun a x=>a.setIfInBounds (pre.length + k + x.2) x.1) (arrOf s))) >>= fun zz=>MonadState.get >>= fun s : SortSt=>Pure.pure (failedOf s).isNone) Q st:=by
  rintro r st ⟨mm,g',rfl,rfl,pm,so⟩
  refine Tr.bM ?_
  refine Tr.bG ?_
  have hl : mm.toList.length = RA.length - k + m:=by rw [pm.length_eq,List.length_append,lA2,lB]
  have el:=lay_list (pre.length + k) mm.toList 0 p (by rw [hl]; omega)
  have em:=lay_map (kas_item it) (pre.length + k) mm.toList 0 p
  rw [Array.toList_map] at *
  refine Tr.pure ?_
  show Q true (SortSt.mk' κ ((((mm.toList.map (kas_item it)).zipIdx).foldl (fun a x=>a.setIfInBounds (pre.length + k + x.2) x.1) (p.map (kas_item it)))) pd' g' none)
  rw [em]
  refine h _ pd' g' (RA.take k ++ (mm.toList ++ RB.drop m)) ?_ epd' ?_ ?_
  ·rw [el,hl,e,Nat.add_zero]
   rw [List.take_length_add_append,List.take_append_of_le_length hk,show pre.length + k + (RA.length - k + m) = pre.length + (RA.length + m) by omega,List.drop_length_add_append,List.drop_length_add_append,List.drop_append_of_le_length hm]
   simp only [List.append_assoc]
  ·refine (List.Perm.append_left _ (List.Perm.append_right _ pm)).trans ?_
   rw [List.append_assoc (RA.drop k),List.take_append_drop,← List.append_assoc,List.take_append_drop]
  ·have sB2:=sb
   rw [spB] at sB2
   refine Sor.join (sa.sublist (List.take_sublist _ _)) (Sor.join so (sb.sublist (List.drop_sublist _ _)) fun x hx y hy => ?_) fun x hx y hy => ?_
   ·rcases List.mem_append.mp (pm.mem_iff.mp hx) with hx | hx
    ·exact above x (List.mem_of_mem_drop hx) y hy
    ·exact (List.pairwise_append.mp sB2).2.2 x hx y hy
   ·have sA2:=sa
    rw [spA] at sA2
    rcases List.mem_append.mp hy with hy | hy
    ·rcases List.mem_append.mp (pm.mem_iff.mp hy) with hy | hy
     ·exact (List.pairwise_append.mp sA2).2.2 x hx y hy
     ·exact below x hx y (List.mem_of_mem_take hy)
    ·exact below x hx y (List.mem_of_mem_drop hy)
 have q1 : Sor lt (p.extract (pre.length + k) (pre.length + RA.length)).toList:=by rw [x1]; exact sa.sublist (List.drop_sublist _ _)
 have q2 : Sor lt (p.extract (pre.length + RA.length) (pre.length + RA.length + m)).toList:=by rw [x2]; exact sb.sublist (List.take_sublist _ _)
 have z1 : (p.extract (pre.length + k) (pre.length + RA.length)).size = RA.length - k:=by rw [← Array.length_toList,x1,lA2]
 have z2 : (p.extract (pre.length + RA.length) (pre.length + RA.length + m)).size = m:=by rw [← Array.length_toList,x2,lB]
 have g1 : (p.extract (pre.length + k) (pre.length + RA.length)).getD (RA.length - k - 1) 0 = RA.getD (RA.length - 1) 0:=by
  rw [arr_getD,x1,List.getD,List.getElem?_drop,show k + (RA.length - k - 1) = RA.length - 1 by omega]
  rfl
 have g2 : (p.extract (pre.length + RA.length) (pre.length + RA.length + m)).getD 0 0 = RB.getD 0 0:=by
  rw [arr_getD,x2,List.getD,List.getElem?_take,if_pos (by omega)]
  rfl
 have q5 : ∀ x ∈ (p.extract (pre.length + k) (pre.length + RA.length)).toList,lt x ((p.extract (pre.length + RA.length) (pre.length + RA.length + m)).getD 0 0) = false:=by
  rw [x1,g2]
  intro x hx
  obtain ⟨i,hi,rfl⟩:=List.mem_iff_getElem.mp hx
  have hi' : k + i < RA.length:=by simp at hi; omega
  have:=W.asym _ _ (k2 (k + i) (by omega) hi')
  simpa [List.getD,hi'] using this
 have q6 : ∀ x ∈ (p.extract (pre.length + RA.length) (pre.length + RA.length + m)).toList,lt ((p.extract (pre.length + k) (pre.length + RA.length)).getD ((p.extract (pre.length + k) (pre.length + RA.length)).size - 1) 0) x = false:=by
  rw [x2,z1,g1]
  intro x hx
  obtain ⟨i,hi,rfl⟩:=List.mem_iff_getElem.mp hx
  have hi' : i < m:=by simp at hi; omega
  have:=W.asym _ _ (m1 i hi')
  rw [List.getElem_take]
  simpa only [List.getD,List.getElem?_eq_getElem (show i < RB.length by omega),Option.getD_some] using this
 rw [← x1,← x2] at fin
 exact Tr.ite (Tr.bind (Tr.mergeLo W hc (hx _ _ (by omega) (by omega)) (hx _ _ (by omega) (by omega)) q1 q2 (by omega) (by omega) q5 q6 fin)) (Tr.bind (Tr.mergeHi W hc (hx _ _ (by omega) (by omega)) (hx _ _ (by omega) (by omega)) q1 q2 (by omega) (by omega) q5 q6 fin))
end
end Mine
end
section
namespace Mine
noncomputable def Up (lt : Nat → Nat → Bool) (p : Array Nat) (lo n : Nat) : Prop := ∀ x y,x ≤ y → y < n → lt (p.getD (lo + y) 0) (p.getD (lo + x) 0) = false
noncomputable def Dn (lt : Nat → Nat → Bool) (p : Array Nat) (lo n : Nat) : Prop:=Up (fun i j=>lt j i) p lo n
structure Ch (p q : Array Nat) (lo : Nat) : Prop where
 pm : q.toList.Perm p.toList
 eq : ∀ k,k < lo → q.getD k 0 = p.getD k 0
theorem Ch.refl {p : Array Nat} {lo : Nat} : Ch p p lo:=⟨List.Perm.refl _,fun zz zz=>rfl⟩
theorem Ch.trans {p q r : Array Nat} {lo : Nat} (a : Ch p q lo) (b : Ch q r lo) : Ch p r lo:=⟨b.pm.trans a.pm,fun k h=>(b.eq k h).trans (a.eq k h)⟩
theorem Ch.size {p q : Array Nat} {lo : Nat} (a : Ch p q lo) : q.size = p.size:=by rw [← Array.length_toList,a.pm.length_eq,Array.length_toList]
theorem Ch.inN {p q : Array Nat} {lo N : Nat} (a : Ch p q lo) (h : InN N p) : InN N q:=fun i hi=>by
 have m : q.getD i 0 ∈ q.toList:=by
  rw [arr_getD,List.getD,List.getElem?_eq_getElem (by simpa using hi)]
  exact List.getElem_mem _
 obtain ⟨j,hj,e⟩:=List.mem_iff_getElem.mp (a.pm.mem_iff.mp m)
 have:=h j (by simpa using hj)
 rw [arr_getD,List.getD,List.getElem?_eq_getElem hj,Option.getD_some,e] at this
 exact this
theorem rev_getD {p : Array Nat} {i j : Nat} (hj : j ≤ p.size) (k : Nat) : (kas_rev p i j).getD k 0 = if i ≤ k ∧ k < j then p.getD (i + j - 1 - k) 0 else p.getD k 0:=by
 have e:=getElem?_mirror_all (xs:=p) (i:=i) (j:=j) hj k
 unfold kas_rev
 simp only [Array.getD_eq_getD_getElem?,e]
 split <;> rfl
theorem rev_ch {p : Array Nat} {i j lo : Nat} (hj : j ≤ p.size) (h : lo ≤ i) : Ch p (kas_rev p i j) lo:=⟨Array.perm_iff_toList_perm.mp (mirror_perm _ _ _ _),fun k hk=>by rw [rev_getD hj,if_neg (by omega)]⟩
section
variable {prog : Program} {w : World} {A : Around} {E : Value → Shared → Prop} {G : Shared → Prop} {κ : SortKind} {it : Array Keyed} {N : Nat} {lt : Nat → Nat → Bool}
theorem Tr.askAt (hc : CmpOk prog w A G κ it N lt) {p : Array Nat} {pd : Array (Nat × Nat × Nat)} {g i j : Nat} {Q : Option Bool → SortSt → Prop} (hp : InN N p) (hi : i < p.size) (hj : j < p.size) (h : Q (some (lt (p.getD i 0) (p.getD j 0))) (SS κ it p pd g)) :
  Tr prog w A E G (ltAt' i j) Q (SS κ it p pd g):=by
 rw [ltAt'_eq]
 exact (Tr.bG ((Tr.bE hi ((Tr.bE hj (Tr.ask hc (hp _ hi) (hp _ hj) h))))))
theorem Tr.rev {p : Array Nat} {pd : Array (Nat × Nat × Nat)} {g i j : Nat} {Q : Unit → SortSt → Prop} (h : Q () (SS κ it (kas_rev p i j) pd g)) : Tr prog w A E G (reverseSlice' i j) Q (SS κ it p pd g):=by
 rw [reverseSlice'_eq]
 refine Tr.modify ?_
 have e1 : mirror (p.map (kas_item it)) i j ((j - i) / 2) = (mirror p i j ((j - i) / 2)).map (kas_item it):=kas_swaps_map (kas_item it) (fun k=>i + k) (fun k=>j - 1 - k) _ p
 show Q () (SortSt.mk' κ (mirror (p.map (kas_item it)) i j ((j - i) / 2)) pd g none)
 rw [e1]
 exact h
theorem Tr.move {p : Array Nat} {pd : Array (Nat × Nat × Nat)} {g k l : Nat} {Q : Unit → SortSt → Prop} (h : Q () (SS κ it (bubble p k (k - l)) pd g)) : Tr prog w A E G (moveDown' k l) Q (SS κ it p pd g):=by
 rw [moveDown'_eq]
 refine Tr.modify ?_
 have e1 : bubble (p.map (kas_item it)) k (k - l) = (bubble p k (k - l)).map (kas_item it):=kas_swaps_map (kas_item it) (fun i=>k - i) (fun i=>k - i - 1) _ p
 show Q () (SortSt.mk' κ (bubble (p.map (kas_item it)) k (k - l)) pd g none)
 rw [e1]
 exact h
theorem WOrd.irr (W : WOrd lt) (i : Nat) : lt i i = false:=by
 cases c : lt i i with
 | false=>rfl
 | true=>have:=W.asym _ _ c; rw [c] at this; cases this
theorem Up.one (W : WOrd lt) {p : Array Nat} {lo : Nat} : Up lt p lo 1:=fun x y h1 h2=>by
 obtain rfl : y = 0:=by omega
 obtain rfl : x = 0:=by omega
 exact W.irr _
theorem Up.step (W : WOrd lt) {p : Array Nat} {lo n : Nat} (h : Up lt p lo n) (hn : 1 ≤ n) (c : lt (p.getD (lo + n) 0) (p.getD (lo + n - 1) 0) = false) : Up lt p lo (n + 1):=fun x y h1 h2=>by
 by_cases e : y = n
 ·subst e
  by_cases e2 : x = y
  ·subst e2; exact W.irr _
  ·have:=h x (y - 1) (by omega) (by omega)
   rw [show lo + (y - 1) = lo + y - 1 by omega] at this
   exact W.tr _ _ _ this c
 ·exact h x y h1 (by omega)
theorem rev_up {q : Array Nat} {lo n : Nat} (hl : lo + n ≤ q.size) (h : Dn lt q lo n) : Up lt (kas_rev q lo (lo + n)) lo n:=fun x y h1 h2=>by
 rw [rev_getD hl,rev_getD hl,if_pos (by omega),if_pos (by omega),show lo + (lo + n) - 1 - (lo + y) = lo + (n - 1 - y) by omega,show lo + (lo + n) - 1 - (lo + x) = lo + (n - 1 - x) by omega]
 exact h _ _ (by omega) (by omega)
theorem rev_dn {q : Array Nat} {lo n m : Nat} (hl : lo + n ≤ q.size) (h : Dn lt q lo n) (hm : m ≤ n) (hb : Up lt q (lo + m) (n - m)) : Dn lt (kas_rev q (lo + m) (lo + n)) lo n:=fun x y h1 h2=>by
 show lt ((kas_rev q (lo + m) (lo + n)).getD (lo + x) 0) ((kas_rev q (lo + m) (lo + n)).getD (lo + y) 0) = false
 rw [rev_getD hl,rev_getD hl]
 by_cases cx : m ≤ x
 ·rw [if_pos (by omega),if_pos (by omega),show lo + m + (lo + n) - 1 - (lo + y) = lo + m + (n - 1 - y) by omega,show lo + m + (lo + n) - 1 - (lo + x) = lo + m + (n - 1 - x) by omega]
  exact hb _ _ (by omega) (by omega)
 ·rw [if_neg (by omega)]
  by_cases cy : m ≤ y
  ·rw [if_pos (by omega),show lo + m + (lo + n) - 1 - (lo + y) = lo + (m + (n - 1 - y)) by omega]
   exact h _ _ (by omega) (by omega)
  ·rw [if_neg (by omega)]
   exact h _ _ h1 h2
theorem Tr.count (W : WOrd lt) (hc : CmpOk prog w A G κ it N lt) {p : Array Nat} {pd : Array (Nat × Nat × Nat)} {g lo nrem : Nat} {Q : Option Nat → SortSt → Prop} (hp : InN N p) (h1 : 1 ≤ nrem) (hl : lo + nrem ≤ p.size)
  (h : ∀ n q,1 ≤ n → n ≤ nrem → Ch p q lo → Up lt q lo n → Q (some n) (SS κ it q pd g)) : Tr prog w A E G (countRun' lo nrem) Q (SS κ it p pd g):=by
 have W':=W.flip
 refine Tr.bind (Tr.mono (Tr.for (Q:=fun c st=>st = SS κ it p pd g ∧ c.1 = none ∧ 1 ≤ c.2 ∧ c.2 ≤ nrem ∧ Up lt p lo c.2 ∧ (c.2 = nrem ∨ lt (p.getD (lo + c.2) 0) (p.getD (lo + c.2 - 1) 0) = true)) (fun x c st=>st = SS κ it p pd g ∧ c.1 = none ∧ c.2 = x ∧ Up lt p lo x) h1 ⟨rfl,rfl,rfl,Up.one W⟩ ?_ ?_) ?_)
 ·rintro x ⟨r,n⟩ st' hx1 hx ⟨rfl,rfl,rfl,hU⟩
  dsimp only at hx1 hx hU ⊢
  refine Tr.bind (Tr.askAt hc hp (by omega) (by omega) ?_)
  dsimp only
  cases c : lt (p.getD (lo + n) 0) (p.getD (lo + n - 1) 0) with
  | true =>
   rw [if_pos rfl]
   exact Tr.pure ⟨rfl,rfl,hx1,(by omega : n ≤ nrem),hU,.inr c⟩
  | false =>
   rw [if_neg (by walk_at "ms")]
   exact Tr.pure ⟨rfl,rfl,rfl,hU.step W hx1 c⟩
 ·rintro ⟨r,n⟩ st' ⟨rfl,rfl,rfl,hU⟩
  exact ⟨rfl,rfl,h1,Nat.le_refl _,hU,.inl rfl⟩
 rintro ⟨r,n⟩ st' ⟨rfl,rfl,n1,n2,hU,hn⟩
 dsimp only at n1 n2 hU hn
 dsimp -zeta -zetaHave only
 refine Tr.if (fun c1=>Tr.pure (h n p n1 n2 Ch.refl hU)) fun c1 => ?_
 extract_lets -underBinder -merge jp
 have c1 : n ≠ nrem:=fun z=>c1 (beq_iff_eq.mpr z)
 have hn:=hn.resolve_left c1
 have hj : ∀ u q,Ch p q lo → Dn lt q lo n → lt (q.getD (lo + n - 1) 0) (q.getD (lo + n) 0) = false → Tr prog w A E G (jp u) Q (SS κ it q pd g):=by
  intro u q hq hD hL
  have sq:=hq.size
  refine Tr.bR ?_
  refine Tr.bind (Tr.mono (Tr.for (Q:=fun c st => ∃ q,st = SS κ it q pd g ∧ c.1 = none ∧ c.2.2 + 1 ≤ c.2.1 ∧ c.2.1 ≤ nrem ∧ Ch p q lo ∧ Dn lt q lo c.2.1 ∧ Up lt q (lo + (c.2.1 - (c.2.2 + 1))) (c.2.2 + 1)) (fun x c st => ∃ q,st = SS κ it q pd g ∧ c.1 = none ∧ c.2.2 + 1 ≤ c.2.1 ∧ c.2.1 = x ∧ Ch p q lo ∧ Dn lt q lo c.2.1 ∧ Up lt q (lo + (c.2.1 - (c.2.2 + 1))) (c.2.2 + 1)) (by omega) ⟨q,rfl,rfl,by show 0 + 1 ≤ n + 1; omega,rfl,hq,Up.step (lt:=fun i j=>lt j i) W' hD n1 hL,Up.one W⟩ ?_ ?_) ?_)
  ·rintro x ⟨r,n,neq⟩ st' hx1 hx ⟨q,rfl,rfl,e1,rfl,hq,hD,hB⟩
   dsimp only at e1 hq hD hB hx hx1
   have sq:=hq.size
   refine Tr.bind (Tr.askAt hc (hq.inN hp) (i:=lo + n) (j:=lo + n - 1) (by omega) (by omega) ?_)
   have fin : ∀ q m,Ch p q lo → m + 1 ≤ n + 1 → Dn lt q lo (n + 1) → Up lt q (lo + (n + 1 - (m + 1))) (m + 1) → ∃ q',SS κ it q pd g = SS κ it q' pd g ∧ (none : Option (Option Nat)) = none ∧ m + 1 ≤ n + 1 ∧ n + 1 = n + 1 ∧ Ch p q' lo ∧ Dn lt q' lo (n + 1) ∧ Up lt q' (lo + (n + 1 - (m + 1))) (m + 1):=fun q m a b c d=>⟨q,rfl,rfl,b,rfl,a,c,d⟩
   cases c : lt (q.getD (lo + n) 0) (q.getD (lo + n - 1) 0) with
   | true =>
    have c':=W.asym _ _ c
    refine Tr.if (fun zz => ?_) fun z=>(z rfl).elim
    refine Tr.if (fun c2 => ?_) fun c2 => ?_
    ·have z : lo + n - (neq + 1) = lo + (n - (neq + 1)):=by omega
     refine Tr.bind (Tr.rev ?_)
     rw [z]
     have hDn:=rev_dn (m:=n - (neq + 1)) (by omega) hD (by omega) (by rw [show n - (n - (neq + 1)) = neq + 1 by omega]; exact hB)
     refine Tr.pure (fin (kas_rev q (lo + (n - (neq + 1))) (lo + n)) 0 (hq.trans (rev_ch (by omega) (by omega))) (by omega) (Up.step (lt:=fun i j=>lt j i) W' hDn (by omega) ?_) (Up.one W))
     show lt ((kas_rev q (lo + (n - (neq + 1))) (lo + n)).getD (lo + n - 1) 0) ((kas_rev q (lo + (n - (neq + 1))) (lo + n)).getD (lo + n) 0) = false
     rw [rev_getD (by omega),rev_getD (by omega),if_pos (by omega),if_neg (by omega),show lo + (n - (neq + 1)) + (lo + n) - 1 - (lo + n - 1) = lo + (n - (neq + 1)) by omega]
     have:=hD (n - (neq + 1)) (n - 1) (by omega) (by omega)
     rw [show lo + (n - 1) = lo + n - 1 by omega] at this
     exact W.tr _ _ _ c' this
    ·exact Tr.pure (fin _ 0 hq (by omega) (Up.step (lt:=fun i j=>lt j i) W' hD (by omega) c') (Up.one W))
   | false =>
    refine Tr.if (fun z=>by cases z) fun zz => ?_
    refine Tr.bind (Tr.askAt hc (hq.inN hp) (i:=lo + n - 1) (j:=lo + n) (by omega) (by omega) ?_)
    cases c' : lt (q.getD (lo + n - 1) 0) (q.getD (lo + n) 0) with
    | true=>exact Tr.pure ⟨q,rfl,rfl,e1,(by omega : n ≤ nrem),hq,hD,hB⟩
    | false =>
     refine Tr.pure (fin _ (neq + 1) hq (by omega) (Up.step (lt:=fun i j=>lt j i) W' hD (by omega) c') ?_)
     rw [show n + 1 - (neq + 1 + 1) = n - (neq + 1) by omega]
     refine hB.step W (by omega) ?_
     rw [show lo + (n - (neq + 1)) + (neq + 1) = lo + n by omega]
     exact c
  ·rintro ⟨r,n,neq⟩ st' ⟨q,rfl,rfl,e1,rfl,hq,hD,hB⟩
   exact ⟨q,rfl,rfl,e1,Nat.le_refl _,hq,hD,hB⟩
  rintro ⟨r,n,neq⟩ st' ⟨q,rfl,rfl,e1,e2,hq,hD,hB⟩
  dsimp only at e1 e2 hq hD hB
  have sq:=hq.size
  dsimp -zeta -zetaHave only
  extract_lets -underBinder -merge r1 s1 m1 k1
  dsimp -zeta -zetaHave only [r1,s1,m1,k1]
  extract_lets -underBinder -merge jp4
  have hj4 : ∀ u q,Ch p q lo → Dn lt q lo n → Tr prog w A E G (jp4 u) Q (SS κ it q pd g):=by
   intro u q hq hD
   have sq:=hq.size
   refine Tr.bind (Tr.rev ?_)
   have hq2 : Ch p (kas_rev q lo (lo + n)) lo:=hq.trans (rev_ch (by omega) (Nat.le_refl _))
   have hU2:=rev_up (by omega) hD
   generalize kas_rev q lo (lo + n) = q2 at hq2 hU2
   have sq:=hq2.size
   refine Tr.bind (Tr.mono (Tr.for (Q:=fun c st=>st = SS κ it q2 pd g ∧ c.1 = none ∧ 1 ≤ c.2 ∧ c.2 ≤ nrem ∧ Up lt q2 lo c.2) (fun x c st=>st = SS κ it q2 pd g ∧ c.1 = none ∧ c.2 = x ∧ Up lt q2 lo x) e2 ⟨rfl,rfl,rfl,hU2⟩ ?_ ?_) ?_)
   ·rintro x ⟨r,m⟩ st' hx1 hx ⟨rfl,rfl,rfl,hU⟩
    dsimp only at hx1 hx hU ⊢
    refine Tr.bind (Tr.askAt hc (hq2.inN hp) (by omega) (by omega) ?_)
    dsimp only
    cases c : lt (q2.getD (lo + m) 0) (q2.getD (lo + m - 1) 0) with
    | true =>
     rw [if_pos rfl]
     exact Tr.pure ⟨rfl,rfl,(by omega : 1 ≤ m),(by omega : m ≤ nrem),hU⟩
    | false =>
     rw [if_neg (by walk_at "ms")]
     exact Tr.pure ⟨rfl,rfl,rfl,hU.step W (by omega) c⟩
   ·rintro ⟨r,m⟩ st' ⟨rfl,rfl,rfl,hU⟩
    exact ⟨rfl,rfl,h1,Nat.le_refl _,hU⟩
   rintro ⟨r,m⟩ st' ⟨rfl,rfl,m1,m2,hU⟩
   exact Tr.pure (h m q2 m1 m2 hq2 hU)
  clear_value jp4
  refine Tr.if (fun c2 => ?_) fun c2=>hj4 _ _ hq hD
  have z : lo + n - (neq + 1) = lo + (n - (neq + 1)):=by omega
  refine Tr.bind (Tr.rev ?_)
  rw [z]
  exact hj4 _ _ (hq.trans (rev_ch (by omega) (by omega))) (rev_dn (m:=n - (neq + 1)) (by omega) hD (by omega) (by rw [show n - (n - (neq + 1)) = neq + 1 by omega]; exact hB))
 clear_value jp
 refine Tr.if (fun c2 => ?_) fun c2 => ?_
 ·refine Tr.bind (Tr.askAt hc hp (i:=lo) (j:=lo + n - 1) (by omega) (by omega) ?_)
  cases c : lt (p.getD lo 0) (p.getD (lo + n - 1) 0) with
  | true=>exact Tr.pure (h n p n1 n2 Ch.refl hU)
  | false =>
   refine Tr.bind (Tr.rev (hj _ _ (rev_ch (by omega) (Nat.le_refl _)) (rev_up (lt:=fun i j=>lt j i) (by omega) hU) ?_))
   rw [rev_getD (by omega),rev_getD (by omega),if_pos (by omega),if_neg (by omega),show lo + (lo + n) - 1 - (lo + n - 1) = lo by omega]
   exact W.tr _ _ _ (W.asym _ _ hn) c
 ·have c2 : ¬ n > 1:=c2
  obtain rfl : n = 1:=by omega
  exact hj _ p Ch.refl (Up.one W') (W.asym _ _ hn)
end
end Mine
end
section
namespace Mine
theorem bub_getD {p : Array Nat} {s d : Nat} (hs : s < p.size) (hd : d ≤ s) (k : Nat) : (bubble p s d).getD k 0 = if k = s - d then p.getD s 0 else if s - d < k ∧ k ≤ s then p.getD (k - 1) 0 else p.getD k 0:=by
 have e:=getElem?_bubble (xs:=p) hs d hd k
 simp only [Array.getD_eq_getD_getElem?,e]
 split
 ·rfl
 ·split <;> rfl
theorem bub_ch {p : Array Nat} {s d lo : Nat} (hs : s < p.size) (hd : d ≤ s) (h : lo ≤ s - d) : Ch p (bubble p s d) lo:=⟨Array.perm_iff_toList_perm.mp (bubble_perm _ _ _),fun k hk=>by rw [bub_getD hs hd,if_neg (by omega),if_neg (by omega)]⟩
section
variable {prog : Program} {w : World} {A : Around} {E : Value → Shared → Prop} {G : Shared → Prop} {κ : SortKind} {it : Array Keyed} {N : Nat} {lt : Nat → Nat → Bool}
theorem bub_up (W : WOrd lt) {q : Array Nat} {lo k l : Nat} (hs : lo + k < q.size) (h : Up lt q lo k) (hl : l ≤ k) (h1 : ∀ i,i < l → lt (q.getD (lo + k) 0) (q.getD (lo + i) 0) = false) (h2 : ∀ i,l ≤ i → i < k → lt (q.getD (lo + k) 0) (q.getD (lo + i) 0) = true) :
  Up lt (bubble q (lo + k) (lo + k - (lo + l))) lo (k + 1):=fun x y a b=>by
 have e : lo + k - (lo + k - (lo + l)) = lo + l:=by omega
 have ve : (bubble q (lo + k) (lo + k - (lo + l))).getD (lo + l) 0 = q.getD (lo + k) 0:=by rw [bub_getD hs (by omega),e,if_pos rfl]
 have vl : ∀ i,i < l → (bubble q (lo + k) (lo + k - (lo + l))).getD (lo + i) 0 = q.getD (lo + i) 0:=fun i hi=>by rw [bub_getD hs (by omega),e,if_neg (by omega),if_neg (by omega)]
 have vg : ∀ i,l < i → i < k + 1 → (bubble q (lo + k) (lo + k - (lo + l))).getD (lo + i) 0 = q.getD (lo + (i - 1)) 0:=fun i hi hk=>by rw [bub_getD hs (by omega),e,if_neg (by omega),if_pos (by omega),show lo + i - 1 = lo + (i - 1) by omega]
 rcases Nat.lt_trichotomy x l with c | rfl | c
 ·rw [vl x c]
  rcases Nat.lt_trichotomy y l with d | rfl | d
  ·rw [vl y d]; exact h _ _ a (by omega)
  ·rw [ve]; exact h1 x c
  ·rw [vg y d b]; exact h _ _ (by omega) (by omega)
 ·rw [ve]
  rcases Nat.lt_trichotomy y x with d | rfl | d
  ·omega
  ·rw [ve]; exact W.irr _
  ·rw [vg y d b]; exact W.asym _ _ (h2 _ (by omega) (by omega))
 ·rw [vg x c (by omega),vg y (by omega) b]
  exact h _ _ (by omega) (by omega)
theorem Tr.binary (W : WOrd lt) (hc : CmpOk prog w A G κ it N lt) {p : Array Nat} {pd : Array (Nat × Nat × Nat)} {g lo n ok : Nat} {Q : Bool → SortSt → Prop} (hp : InN N p) (h1 : 1 ≤ ok) (h2 : ok ≤ n) (hl : lo + n ≤ p.size) (hU : Up lt p lo ok)
  (h : ∀ q,Ch p q lo → Up lt q lo n → Q true (SS κ it q pd g)) : Tr prog w A E G (binarySort' lo n ok) Q (SS κ it p pd g):=by
 have e : max ok 1 = ok:=by omega
 refine Tr.bind (Tr.mono (Tr.for (Q:=fun c st=>c.1 = none ∧ ∃ q,st = SS κ it q pd g ∧ Ch p q lo ∧ Up lt q lo n) (fun x c st=>c.1 = none ∧ ∃ q,st = SS κ it q pd g ∧ Ch p q lo ∧ Up lt q lo x) (by omega) ⟨rfl,p,rfl,Ch.refl,by rw [e]; exact hU⟩ ?_ fun zz zz x=>x) ?_)
 ·rintro k ⟨r,u⟩ st' hk1 hk ⟨rfl,q,rfl,hq,hU⟩
  have sq:=hq.size
  have up : ∀ m,m < k → lt (q.getD (lo + k) 0) (q.getD (lo + m) 0) = true → ∀ i,m ≤ i → i < k → lt (q.getD (lo + k) 0) (q.getD (lo + i) 0) = true:=fun m hm c i hi hk=>by
   cases z : lt (q.getD (lo + k) 0) (q.getD (lo + i) 0) with
   | true=>rfl
   | false=>rw [W.tr _ _ _ (hU m i hi hk) z] at c; cases c
  have dn : ∀ m,m < k → lt (q.getD (lo + k) 0) (q.getD (lo + m) 0) = false → ∀ i,i < m + 1 → lt (q.getD (lo + k) 0) (q.getD (lo + i) 0) = false:=fun m hm c i hi=>W.tr _ _ _ (hU i m (by omega) hm) c
  refine Tr.bind (Tr.mono (Tr.for (Q:=fun c st=>st = SS κ it q pd g ∧ c.1 = none ∧ c.2.1 ≤ k ∧ (∀ i,i < c.2.1 → lt (q.getD (lo + k) 0) (q.getD (lo + i) 0) = false) ∧ (∀ i,c.2.1 ≤ i → i < k → lt (q.getD (lo + k) 0) (q.getD (lo + i) 0) = true))
   (fun x c st=>st = SS κ it q pd g ∧ c.1 = none ∧ c.2.1 ≤ c.2.2 ∧ c.2.2 ≤ k ∧ c.2.2 - c.2.1 ≤ k - x ∧ (∀ i,i < c.2.1 → lt (q.getD (lo + k) 0) (q.getD (lo + i) 0) = false) ∧ (∀ i,c.2.2 ≤ i → i < k → lt (q.getD (lo + k) 0) (q.getD (lo + i) 0) = true)) (Nat.zero_le _) ⟨rfl,rfl,Nat.zero_le _,Nat.le_refl _,Nat.le_refl _,fun i hi=>absurd hi (Nat.not_lt_zero _),fun i hi hk=>absurd hk (Nat.not_lt.mpr hi)⟩ ?_ ?_) ?_)
  ·rintro x ⟨r,l,r'⟩ st' _ hx ⟨rfl,rfl,a1,a2,a3,a4,a5⟩
   dsimp only at a1 a2 a3 a4 a5 ⊢
   by_cases c1 : l ≥ r'
   ·rw [if_pos c1]
    obtain rfl : l = r':=by omega
    exact Tr.pure ⟨rfl,rfl,a2,a4,a5⟩
   ·rw [if_neg c1]
    refine Tr.bind (Tr.askAt hc (hq.inN hp) (i:=lo + k) (j:=lo + (l + r') / 2) (by omega) (by omega) ?_)
    dsimp only
    cases c : lt (q.getD (lo + k) 0) (q.getD (lo + (l + r') / 2) 0) with
    | true =>
     rw [if_pos rfl]
     exact Tr.pure ⟨rfl,rfl,(by omega : l ≤ (l + r') / 2),(by omega : (l + r') / 2 ≤ k),(by omega : (l + r') / 2 - l ≤ k - (x + 1)),a4,up ((l + r') / 2) (by omega) c⟩
    | false =>
     rw [if_neg (by walk_at "ms")]
     exact Tr.pure ⟨rfl,rfl,(by omega : (l + r') / 2 + 1 ≤ r'),a2,(by omega : r' - ((l + r') / 2 + 1) ≤ k - (x + 1)),dn ((l + r') / 2) (by omega) c,a5⟩
  ·rintro ⟨r,l,r'⟩ st' ⟨rfl,rfl,a1,a2,a3,a4,a5⟩
   dsimp only at a1 a2 a3 a4 a5
   obtain rfl : l = r':=by omega
   exact ⟨rfl,rfl,a2,a4,a5⟩
  rintro ⟨r,l,r'⟩ st' ⟨rfl,rfl,a1,a4,a5⟩
  dsimp only at a1 a4 a5 ⊢
  exact Tr.bind (Tr.move (Tr.pure ⟨rfl,_,rfl,hq.trans (bub_ch (by omega) (by omega) (by omega)),bub_up W (by omega) hU a1 a4 a5⟩))
 rintro ⟨r,u⟩ st' ⟨rfl,q,rfl,hq,hU⟩
 exact Tr.pure (h q hq hU)
end
end Mine
end
section
namespace Mine
inductive RunsL (lt : Nat → Nat → Bool) : List (Nat × Nat × Nat) → Nat → List (List Nat) → Prop
 | nil {s : Nat} : RunsL lt [] s []
 | cons {s pw : Nat} {r : List (Nat × Nat × Nat)} {R : List Nat} {Rs : List (List Nat)} : Sor lt R → 1 ≤ R.length → RunsL lt r (s + R.length) Rs → RunsL lt ((s,R.length,pw) :: r) s (R :: Rs)
section
variable {lt : Nat → Nat → Bool}
theorem RunsL.inv {s a b c : Nat} {r : List (Nat × Nat × Nat)} {Rs : List (List Nat)} (h : RunsL lt ((a,b,c) :: r) s Rs) : ∃ R Rs',Rs = R :: Rs' ∧ a = s ∧ b = R.length ∧ Sor lt R ∧ 1 ≤ R.length ∧ RunsL lt r (s + R.length) Rs':=by
 cases h with
 | cons h1 h2 h3=>exact ⟨_,_,rfl,rfl,rfl,h1,h2,h3⟩
theorem RunsL.split : ∀ {X Y : List (Nat × Nat × Nat)} {s : Nat} {Rs : List (List Nat)},RunsL lt (X ++ Y) s Rs → ∃ R1 R2,Rs = R1 ++ R2 ∧ RunsL lt X s R1 ∧ RunsL lt Y (s + R1.flatten.length) R2
 | [],Y,s,Rs,h=>⟨[],Rs,rfl,.nil,h⟩
 | (a,b,c) :: X,Y,s,Rs,h=>by
  obtain ⟨R,Rs',rfl,rfl,rfl,h1,h2,h3⟩:=RunsL.inv h
  obtain ⟨R1,R2,rfl,h4,h5⟩:=RunsL.split h3
  refine ⟨R :: R1,R2,rfl,.cons h1 h2 h4, ?_⟩
  rw [List.flatten_cons,List.length_append,← Nat.add_assoc]
  exact h5
theorem RunsL.app : ∀ {X Y : List (Nat × Nat × Nat)} {s : Nat} {R1 R2 : List (List Nat)},RunsL lt X s R1 → RunsL lt Y (s + R1.flatten.length) R2 → RunsL lt (X ++ Y) s (R1 ++ R2)
 | [],Y,s,R1,R2,h,h'=>by cases h; exact h'
 | (a,b,c) :: X,Y,s,Rs,R2,h,h'=>by
  obtain ⟨R,Rs',rfl,rfl,rfl,h1,h2,h3⟩:=RunsL.inv h
  refine .cons h1 h2 (RunsL.app h3 ?_)
  rw [List.flatten_cons,List.length_append,← Nat.add_assoc] at h'
  exact h'
theorem RunsL.len {X : List (Nat × Nat × Nat)} {s : Nat} {Rs : List (List Nat)} (h : RunsL lt X s Rs) : X.length ≤ Rs.flatten.length:=by
 induction h with
 | nil=>exact Nat.le_refl _
 | cons h1 h2 h3 ih=>rw [List.flatten_cons,List.length_append,List.length_cons]; omega
theorem RunsL.pow {f : Nat × Nat × Nat → Nat × Nat × Nat} (hf : ∀ a b c,∃ d,f (a,b,c) = (a,b,d)) {X : List (Nat × Nat × Nat)} {s : Nat} {Rs : List (List Nat)} (h : RunsL lt X s Rs) : ∀ k,RunsL lt (X.modify k f) s Rs:=by
 induction h with
 | nil=>intro k; rw [List.modify_nil]; exact .nil
 | @cons s pw r R Rs h1 h2 h3 ih =>
  intro k
  cases k with
  | zero =>
   obtain ⟨d,e⟩:=hf s R.length pw
   rw [List.modify_zero_cons,e]
   exact .cons h1 h2 h3
  | succ k=>rw [List.modify_succ_cons]; exact .cons h1 h2 (ih k)
structure RInv (lt : Nat → Nat → Bool) (N : Nat) (q : Array Nat) (pd : Array (Nat × Nat × Nat)) (rest : List Nat) : Prop where
 ex : ∃ Rs,q.toList = Rs.flatten ++ rest ∧ RunsL lt pd.toList 0 Rs
 pm : q.toList.Perm (List.range N)
theorem RInv.size {N : Nat} {q : Array Nat} {pd : Array (Nat × Nat × Nat)} {rest : List Nat} (h : RInv lt N q pd rest) : q.size = N:=by rw [← Array.length_toList,h.pm.length_eq,List.length_range]
theorem perm_inN {N : Nat} {q : Array Nat} (h : q.toList.Perm (List.range N)) : InN N q:=fun i hi=>by
 have m : q.getD i 0 ∈ q.toList:=by
  rw [arr_getD,List.getD,List.getElem?_eq_getElem (by simpa using hi)]
  exact List.getElem_mem _
 exact List.mem_range.mp (h.mem_iff.mp m)
theorem two_split {α : Type} {l : List α} {i : Nat} (h : i + 1 < l.length) : ∃ X a b Y,l = X ++ a :: b :: Y ∧ X.length = i:=by
 refine ⟨l.take i,l[i],l[i + 1],l.drop (i + 2), ?_,by rw [List.length_take]; omega⟩
 rw [← List.drop_eq_getElem_cons h,← List.drop_eq_getElem_cons (by omega),List.take_append_drop]
end
section
variable {prog : Program} {w : World} {A : Around} {E : Value → Shared → Prop} {G : Shared → Prop} {κ : SortKind} {it : Array Keyed} {N : Nat} {lt : Nat → Nat → Bool}
theorem Tr.mergeR (W : WOrd lt) (hc : CmpOk prog w A G κ it N lt) {q : Array Nat} {pd : Array (Nat × Nat × Nat)} {rest : List Nat} {g i : Nat} {Q : Bool → SortSt → Prop} (hI : RInv lt N q pd rest) (hi : i + 1 < pd.size)
  (h : ∀ q' pd' g',RInv lt N q' pd' rest → pd'.size + 1 = pd.size → Q true (SS κ it q' pd' g')) : Tr prog w A E G (mergeAt' i) Q (SS κ it q pd g):=by
 obtain ⟨Rs,e,hR⟩:=hI.ex
 obtain ⟨X,⟨a,b,c⟩,⟨a',b',c'⟩,Y,epd,rfl⟩:=two_split (l:=pd.toList) (by simpa using hi)
 rw [epd] at hR
 obtain ⟨R1,R2,rfl,hX,hR⟩:=RunsL.split hR
 obtain ⟨RA,R2,rfl,rfl,rfl,s1,l1,hR⟩:=hR.inv
 obtain ⟨RB,R2,rfl,rfl,rfl,s2,l2,hR⟩:=hR.inv
 rw [Nat.zero_add] at epd hR
 have e' : q.toList = R1.flatten ++ (RA ++ (RB ++ (R2.flatten ++ rest))):=by
  rw [e]
  simp only [List.flatten_append,List.flatten_cons,List.append_assoc]
 refine Tr.mergeAt W hc (perm_inN hI.pm) e' epd s1 s2 l1 l2 fun q' pd' g' RC f1 f2 f3 f4=>h q' pd' g' ⟨⟨R1 ++ RC :: R2, ?_, ?_⟩, ?_⟩ ?_
 ·rw [f1]
  simp only [List.flatten_append,List.flatten_cons,List.append_assoc]
 ·have lC : RA.length + RB.length = RC.length:=by rw [f3.length_eq,List.length_append]
  rw [f2,lC]
  refine RunsL.app hX ?_
  rw [Nat.zero_add]
  refine .cons f4 (by omega) ?_
  rw [← lC,← Nat.add_assoc]
  exact hR
 ·refine List.Perm.trans ?_ hI.pm
  rw [f1,e',← List.append_assoc RA]
  exact List.Perm.append_left _ (List.Perm.append_right _ f3)
 ·rw [← Array.length_toList,← Array.length_toList,f2,epd]
  simp only [List.length_append,List.length_cons]
  omega
theorem RInv.ch {q q1 : Array Nat} {pd : Array (Nat × Nat × Nat)} {rest : List Nat} {lo : Nat} (h : RInv lt N q pd rest) (hl : lo + rest.length = N) (c : Ch q q1 lo) : RInv lt N q1 pd (q1.toList.drop lo):=by
 obtain ⟨Rs,e,hR⟩:=h.ex
 refine ⟨⟨Rs, ?_,hR⟩,c.pm.trans h.pm⟩
 have l1 : q.toList.length = N:=by rw [h.pm.length_eq,List.length_range]
 have l2 : Rs.flatten.length = lo:=by rw [e,List.length_append] at l1; omega
 have : q1.toList.take lo = Rs.flatten:=by
  refine List.ext_getElem (by rw [List.length_take,c.pm.length_eq,l1]; omega) fun i h1 h2 => ?_
  have:=c.eq i (by omega)
  rw [arr_getD,arr_getD,e,List.getD,List.getD,List.getElem?_append_left h2,List.getElem?_eq_getElem h2,List.getElem?_eq_getElem (by rw [c.pm.length_eq]; omega)] at this
  simpa using this
 rw [← this,List.take_append_drop]
theorem Up.sor {q : Array Nat} {lo n : Nat} (h : Up lt q lo n) (hl : lo + n ≤ q.size) : Sor lt ((q.toList.drop lo).take n):=by
 refine List.pairwise_iff_getElem.mpr fun i j hi hj hij => ?_
 have hj' : j < n:=by simp at hj; omega
 have:=h i j (by omega) hj'
 simpa [Array.getD,(show lo + i < q.size by omega),(show lo + j < q.size by omega)] using this
theorem RInv.push {q : Array Nat} {pd : Array (Nat × Nat × Nat)} {R rest : List Nat} {lo : Nat} (h : RInv lt N q pd (R ++ rest)) (hl : lo + R.length + rest.length = N) (s : Sor lt R) (r1 : 1 ≤ R.length) : RInv lt N q (pd.push (lo,R.length,0)) rest:=by
 obtain ⟨Rs,e,hR⟩:=h.ex
 have l1 : q.toList.length = N:=by rw [h.pm.length_eq,List.length_range]
 have l2 : lo = 0 + Rs.flatten.length:=by rw [e,List.length_append,List.length_append] at l1; omega
 refine ⟨⟨Rs ++ [R],by rw [e]; simp, ?_⟩,h.pm⟩
 rw [Array.toList_push]
 refine RunsL.app hR ?_
 rw [l2]
 exact .cons s r1 .nil
theorem Tr.runs (W : WOrd lt) (hc : CmpOk prog w A G κ it N lt) {p : Array Nat} {g : Nat} {Q : Unit → SortSt → Prop} (hp : p.toList.Perm (List.range N))
  (h : ∀ q pd g,q.toList.Perm (List.range N) → Sor lt q.toList → Q () (SS κ it q pd g)) : Tr prog w A E G sortRuns' Q (SS κ it p #[] g):=by
 have sp : p.size = N:=by rw [← Array.length_toList,hp.length_eq,List.length_range]
 refine Tr.bG ?_
 simp -zeta -zetaHave only [Array.size_map,sp]
 extract_lets -underBinder -merge size mr
 refine Tr.bind (Tr.mono (Tr.for (Q:=fun c st=>c.1 = none ∧ ∃ q pd g,st = SS κ it q pd g ∧ RInv lt N q pd []) (fun x c st=>c.1 = none ∧ x ≤ c.2 ∧ ∃ q pd g rest,st = SS κ it q pd g ∧ RInv lt N q pd rest ∧ c.2 + rest.length = N) (Nat.zero_le _) ⟨rfl,Nat.le_refl _,p,#[],g,p.toList,rfl,⟨⟨[],rfl,.nil⟩,hp⟩,by rw [Array.length_toList,sp]; exact Nat.zero_add _⟩ ?_ ?_) ?_)
 ·rintro x ⟨r,lo⟩ st' _ hx ⟨rfl,hxl,q,pd,g,rest,rfl,hI,hl⟩
  have hx : x < N:=hx
  dsimp only at hxl hl
  have sq:=hI.size
  dsimp -zeta -zetaHave only
  extract_lets -underBinder -merge l1
  refine Tr.if (fun c1 => ?_) fun c1 => ?_
  ·have c1 : lo ≥ N:=c1
   obtain rfl : rest = []:=List.length_eq_zero_iff.mp (by omega)
   exact Tr.pure ⟨rfl,q,pd,g,rfl,hI⟩
  have c1 : ¬ lo ≥ N:=c1
  refine Tr.bind (Tr.count W hc (lo:=lo) (nrem:=N - lo) (perm_inN hI.pm) (by omega) (by omega) fun n q1 n1 n2 hq hU => ?_)
  have hI1:=hI.ch hl hq
  have sq1:=hI1.size
  dsimp -zeta -zetaHave only
  extract_lets -underBinder -merge n' jp
  have hj : ∀ u n q (PF : ForInStep (Option Unit × Nat) → SortSt → Prop),1 ≤ n → lo + n ≤ N → RInv lt N q pd (q.toList.drop lo) → Up lt q lo n → (∀ q pd g rest,RInv lt N q pd rest → lo + n + rest.length = N → PF (.yield (none,lo + n)) (SS κ it q pd g)) → Tr prog w A E G (jp u n) PF (SS κ it q pd g):=by
   intro u n q PF n1 n2 hI hU p1
   have sq:=hI.size
   refine Tr.bG ?_
   have hS:=hU.sor (by omega)
   have lD : (q.toList.drop lo).length = N - lo:=by rw [List.length_drop,Array.length_toList,sq]
   have hR : (q.toList.drop lo).take n ++ (q.toList.drop lo).drop n = q.toList.drop lo:=List.take_append_drop _ _
   have lR : ((q.toList.drop lo).take n).length = n:=by rw [List.length_take,lD]; omega
   have lR2 : ((q.toList.drop lo).drop n).length = N - lo - n:=by rw [List.length_drop,lD]
   rw [← hR] at hI
   generalize (q.toList.drop lo).take n = R at hS hI lR
   generalize (q.toList.drop lo).drop n = rest at hI lR2
   dsimp -zeta -zetaHave only
   extract_lets -underBinder -merge jp2
   have hj2 : ∀ u q pd g,RInv lt N q pd (R ++ rest) → Tr prog w A E G (jp2 u) PF (SS κ it q pd g):=by
    intro u q pd g hI
    refine Tr.bM ?_
    have:=hI.push (lo:=lo) (by omega) hS (by omega)
    rw [lR] at this
    exact Tr.pure (p1 q _ g rest this (by omega))
   clear_value jp2
   rcases pd.back? with _ | ⟨s1,n1,pw1⟩
   ·exact hj2 _ _ _ _ hI
   dsimp -zeta -zetaHave only
   extract_lets -underBinder -merge pw
   refine Tr.bind (Tr.mono (Tr.for (Q:=fun c st=>c.1 = none ∧ ∃ q pd g,st = SS κ it q pd g ∧ RInv lt N q pd (R ++ rest)) (fun x c st=>c.1 = none ∧ ∃ q pd g,st = SS κ it q pd g ∧ RInv lt N q pd (R ++ rest)) (Nat.zero_le _) ⟨rfl,q,pd,g,rfl,hI⟩ ?_ fun zz zz x=>x) ?_)
   ·rintro x ⟨r,u⟩ st' _ hx ⟨rfl,q,pd,g,rfl,hI⟩
    refine Tr.bG ?_
    dsimp only
    by_cases c : pd.size > 1
    ·rw [if_pos c]
     rcases pd[pd.size - 2]? with _ | ⟨a1,a2,older⟩
     ·exact Tr.pure ⟨rfl,q,pd,g,rfl,hI⟩
     ·refine Tr.if (fun zz=>Tr.pure ⟨rfl,q,pd,g,rfl,hI⟩) fun zz => ?_
      refine Tr.bind (Tr.mergeR W hc hI (by omega) fun q' pd' g' hI' zz => ?_)
      exact Tr.if (fun z=>by cases z) fun zz=>Tr.pure ⟨rfl,q',pd',g',rfl,hI'⟩
    ·rw [if_neg c]
     exact Tr.pure ⟨rfl,q,pd,g,rfl,hI⟩
   rintro ⟨r,u⟩ st' ⟨rfl,q,pd,g,rfl,hI⟩
   refine Tr.bM ?_
   obtain ⟨Rs,e,hRs⟩:=hI.ex
   refine hj2 _ q _ g ⟨⟨Rs,e, ?_⟩,hI.pm⟩
   rw [Array.toList_modify]
   exact hRs.pow (fun a b c=>⟨_,rfl⟩) _
  clear_value jp
  refine Tr.if (fun c2 => ?_) fun c2=>hj _ n q1 _ n1 (by omega) hI1 hU fun q pd g rest a b=>⟨rfl,(by omega : x + 1 ≤ lo + n),q,pd,g,rest,rfl,a,b⟩
  refine Tr.bR ?_
  extract_lets -underBinder -merge force
  have f1 : n ≤ min (N - lo) mr:=by
   have c2 : n < mr:=c2
   omega
  refine Tr.bind (Tr.binary W hc (lo:=lo) (n:=min (N - lo) mr) (perm_inN hI1.pm) n1 f1 (by omega) hU fun q2 hq2 hU2 => ?_)
  have lD : (q1.toList.drop lo).length = N - lo:=by rw [List.length_drop,Array.length_toList,sq1]
  exact Tr.if (fun z=>by cases z) fun zz=>hj _ _ q2 _ (by omega) (by omega) (hI1.ch (by rw [lD]; omega) hq2) hU2 fun q pd g rest a b=>⟨rfl,(by omega : x + 1 ≤ lo + min (N - lo) mr),q,pd,g,rest,rfl,a,b⟩
 ·rintro ⟨r,lo⟩ st' ⟨rfl,hxl,q,pd,g,rest,rfl,hI,hl⟩
  have hxl : N ≤ lo:=hxl
  dsimp only at hl
  obtain rfl : rest = []:=List.length_eq_zero_iff.mp (by omega)
  exact ⟨rfl,q,pd,g,rfl,hI⟩
 rintro ⟨r,lo⟩ st' ⟨rfl,q,pd,g,rfl,hI⟩
 dsimp -zeta -zetaHave only
 extract_lets -underBinder -merge r1
 have s0 : pd.size ≤ N:=by
  obtain ⟨Rs,e,hR⟩:=hI.ex
  have:=hR.len
  rw [List.append_nil] at e
  rw [← e,Array.length_toList,Array.length_toList,hI.size] at this
  exact this
 refine Tr.bind (Tr.mono (Tr.for (Q:=fun c st=>c.1 = none ∧ ∃ q pd g,st = SS κ it q pd g ∧ RInv lt N q pd [] ∧ pd.size ≤ 1) (fun x c st=>c.1 = none ∧ ∃ q pd g,st = SS κ it q pd g ∧ RInv lt N q pd [] ∧ (pd.size ≤ 1 ∨ pd.size + x ≤ N + 1)) (Nat.zero_le _) ⟨rfl,q,pd,g,rfl,hI,.inr (by omega)⟩ ?_ ?_) ?_)
 ·rintro x ⟨r,u⟩ st' _ hx ⟨rfl,q,pd,g,rfl,hI,hs⟩
  refine Tr.bG ?_
  refine Tr.if (fun c=>Tr.pure ⟨rfl,q,pd,g,rfl,hI,c⟩) fun c => ?_
  have c : ¬ pd.size ≤ 1:=c
  have key : ∀ (d : Bool),(if d = true then pd.size - 2 - 1 else pd.size - 2) + 1 < pd.size:=fun d=>by
   cases d with
   | true=>rw [if_pos rfl]; omega
   | false=>rw [if_neg (by walk_at "ms")]; omega
  refine Tr.bind (Tr.mergeR W hc hI (key _) fun q' pd' g' hI' hz => ?_)
  exact Tr.if (fun z=>by cases z) fun zz=>Tr.pure ⟨rfl,q',pd',g',rfl,hI',(by omega : pd'.size ≤ 1 ∨ pd'.size + (x + 1) ≤ N + 1)⟩
 ·rintro ⟨r,u⟩ st' ⟨rfl,q,pd,g,rfl,hI,hs⟩
  exact ⟨rfl,q,pd,g,rfl,hI,by rcases hs with h | h; exact h; have h : pd.size + N ≤ N + 1:=h; omega⟩
 rintro ⟨r,u⟩ st' ⟨rfl,q,pd,g,rfl,hI,hs⟩
 refine Tr.pure (h q pd g hI.pm ?_)
 obtain ⟨Rs,e,hR⟩:=hI.ex
 rw [List.append_nil] at e
 rw [e]
 rw [← Array.length_toList] at hs
 generalize pd.toList = L at hR hs
 match L,hs,hR with
 | [],_,hR=>cases hR; exact List.Pairwise.nil
 | [(a,b,c)],_,hR =>
  obtain ⟨R,Rs',rfl,_,_,s,_,hR⟩:=hR.inv
  cases hR
  simpa using s
end
end Mine
end
section
namespace Mine
section
variable {prog : Program} {w : World} {A : Around} {E : Value → Shared → Prop} {h h' : Heap} {κ : SortKind} {lt : Nat → Nat → Bool} {vs : List Value}
structure KeysOk (prog : Program) (w : World) (A : Around) (h : Heap) (a : Addr) (vs : List Value) (κ : SortKind) (lt : Nat → Nat → Bool) : Prop where
 ord : WOrd lt
 kind : ∀ (s : Shared) (E : Value → Shared → Prop) (P : SortKind → Shared → Prop),Sub [a] h s.heap → P κ s → wpAny (model prog w) A (keyKind' vs.toArray) P E s
 cmp : ∀ (s : Shared) (i j : Nat) (P : Bool → Shared → Prop),Sub [a] h s.heap → i < vs.length → j < vs.length → (∀ tk,P (lt i j) { s with toks:=tk }) → wpAny (model prog w) A (keyLt' κ (vs.getD i .none) (vs.getD j .none)) P (fun zz zz=>False) s
theorem sort_any {s : Shared} {a : Addr} {n : Nat} {P : PySem.Fin → Shared → Prop} (ho : s.heap.get? a = some (seqObj "list" vs.toArray n)) (hz : vs.length ≤ 100000) (k : 2 ≤ vs.length → KeysOk prog w A s.heap a vs κ lt)
  (q : ∀ h' n' tk (p : List Nat),Sub [a] s.heap h' → h'.get? a = some (seqObj "list" (p.map fun i=>vs.getD i .none).toArray n') → p.Perm (List.range vs.length) → (2 ≤ vs.length → Sor lt p) → P (.done (.ret .none)) { s with heap:=h',toks:=tk }) : wpAny (model prog w) A (Builtin.«list.sort» ⟨[.ref a],[]⟩) P E s:=by
 rw [list_sort_plain]
 have ha : a < s.heap.objs.size:=Heap.lt_size ho
 refine wpAny_bind (listItems_at ho rfl ?_)
 refine wpAny_bind (listUpdate_at ho rfl ?_ (by rw [List.size_toArray,sizeLine_eq]; omega) (Nat.zero_le _))
 have s1:=Heap.SameBut.update s.heap a (Obj.mapSeq fun zz=>(#[] : Array Value))
 obtain ⟨e1,ho1⟩ : ∃ e1,(s.heap.update a (Obj.mapSeq fun zz => #[])).get? a = some (seqObj "list" #[] e1):=⟨_,get?_update_seq ho (fun zz => #[])⟩
 refine wpAny_bind (seqEpoch_at ho1 rfl ?_)
 refine wpAny_bind (wpAny_newTuple ?_ (by show vs.length ≤ _; rw [sizeLine_eq]; omega))
 refine wpAny_bind (wpAny_newList ?_ (Nat.zero_le _))
 refine wpAny_holding ?_
 have ho6:=Heap.get?_push_of_some (seqObj "list" #[] 0) (Heap.get?_push_of_some (seqObj "tuple" vs.toArray 0) ho1)
 show wpAny (model prog w) A _ P E { s with heap:=((s.heap.update a (Obj.mapSeq fun zz => #[])).push (seqObj "tuple" vs.toArray 0)).push (seqObj "list" #[] 0) }
 have hsub : Sub [a] s.heap (((s.heap.update a (Obj.mapSeq fun zz => #[])).push (seqObj "tuple" vs.toArray 0)).push (seqObj "list" #[] 0)):=fun b o nb eb=>by
  have nb' : b ≠ a:=by simpa using nb
  exact Heap.get?_push_of_some _ (Heap.get?_push_of_some _ ((s1.2 b nb').trans eb))
 generalize hH : ((s.heap.update a (Obj.mapSeq fun zz => #[])).push (seqObj "tuple" vs.toArray 0)).push (seqObj "list" #[] 0) = H at ho6 hsub
 dsimp only
 have fin : ∀ (st' : SortSt) (tk : Nat) (p : List Nat),(arrOf st').map (·.2) = List.toArray (p.map fun i=>vs.getD i .none) → failedOf st' = none → p.Perm (List.range vs.length) → (2 ≤ vs.length → Sor lt p) →
   wpAny (model prog w) A (do
    let sorted:=(arrOf st').map (·.2)
    let touched:=(← seqEpoch a) != e1
    Builtin.List.listUpdate (.ref a) fun zz=>sorted
    if let some e:=failedOf st' then rule "list.sort.comparison-raised"; throw e
    if touched then rule "list.sort.modified"; raiseError "ValueError" "list modified during sort"
    PySem.ret .none) P E { s with heap:=H,toks:=tk }:=by
  intro st' tk p hout hf hp hs
  have hsz : (List.toArray (p.map fun i=>vs.getD i .none)).size = vs.length:=by rw [List.size_toArray,List.length_map,hp.length_eq,List.length_range]
  dsimp only
  rw [hout]
  have s2:=Heap.SameBut.update H a (Obj.mapSeq fun zz=>List.toArray (p.map fun i=>vs.getD i .none))
  refine wpAny_bind (seqEpoch_at ho6 rfl ?_)
  refine wpAny_bind (listUpdate_at ho6 rfl ?_ (Nat.zero_le _) (Nat.le_trans (Nat.le_of_eq hsz) (by rw [sizeLine_eq]; omega)))
  rw [hf]
  simp only [bne_self_eq_false,Bool.false_eq_true,if_false]
  refine wpAny_pure (q _ _ tk p (fun b o nb eb => ?_) (get?_update_seq ho6 fun zz=>List.toArray (p.map fun i=>vs.getD i .none)) hp hs)
  have nb' : b ≠ a:=by simpa using nb
  exact (s2.2 b nb').trans (hsub b o nb eb)
 by_cases h2 : vs.length < 2
 ·have hn2 : vs.toArray.size < 2:=by rw [List.size_toArray]; exact h2
  rw [if_pos hn2,if_pos hn2]
  refine wpAny_bind (wpAny_pure ?_)
  rw [StateT.run_pure]
  refine wpAny_bind (wpAny_pure ?_)
  refine fin (SortSt.mk' general' (vs.toArray.zip vs.toArray) #[] 7 none) s.toks (List.range vs.length) ?_ rfl (.refl _) fun z=>by omega
  apply Array.toList_inj.mp
  show ((vs.toArray.zip vs.toArray).map (·.2)).toList = _
  simp only [Array.toList_map,Array.toList_zip]
  rw [List.map_snd_zip (Nat.le_refl _)]
  refine List.ext_getElem (by walk_at "ms") fun k h1 h2 => ?_
  simp [h1]
 ·have hn2 : ¬ vs.toArray.size < 2:=by rw [List.size_toArray]; exact h2
  have K:=k (by omega)
  rw [if_neg hn2,if_neg hn2]
  refine wpAny_bind (K.kind { s with heap:=H } _ _ hsub ?_)
  have est : SortSt.mk' κ (vs.toArray.zip vs.toArray) #[] 7 none = SS κ (pairsOf vs) (List.toArray (List.range vs.length)) #[] 7:=by
   have e:=kas_range (pairsOf vs)
   rw [pairsOf_size] at e
   show SortSt.mk' κ (pairsOf vs) #[] 7 none = SortSt.mk' κ ((List.toArray (List.range vs.length)).map (kas_item (pairsOf vs))) #[] 7 none
   rw [e]
  rw [est]
  have run:=Tr.runs (prog:=prog) (w:=w) (A:=A) (E:=E) (G:=fun s' => ∃ tk,s' = { s with heap:=H,toks:=tk }) (κ:=κ) (it:=pairsOf vs) (N:=vs.length) (p:=(List.range vs.length).toArray) (g:=7) (Q:=fun zz st' => ∃ q pd g,st' = SS κ (pairsOf vs) q pd g ∧ q.toList.Perm (List.range vs.length) ∧ Sor lt q.toList) K.ord (fun i j hi hj s' ⟨tk,e⟩=>by
   subst e
   unfold kas_cmp
   rw [kas_item_eq,kas_item_eq]
   exact K.cmp _ i j _ hsub hi hj fun tk'=>⟨⟨tk',rfl⟩,rfl⟩) (by walk_at "ms") (fun q pd g h1 h2=>⟨q,pd,g,rfl,h1,h2⟩) { s with heap:=H } ⟨s.toks,rfl⟩
  refine wpAny_bind (wpAny_mono run ?_ fun zz zz e=>e)
  rintro ⟨⟨⟩,st'⟩ s' ⟨⟨tk,rfl⟩,q',pd,g,rfl,hp,hs⟩
  refine fin _ tk q'.toList ?_ rfl hp fun zz=>hs
  apply Array.toList_inj.mp
  show ((q'.map (kas_item (pairsOf vs))).map (·.2)).toList = _
  rw [Array.map_map,Array.toList_map]
  exact List.map_congr_left fun i zz=>by show (kas_item (pairsOf vs) i).2 = _; rw [kas_item_eq]
end
end Mine
end
section
namespace Mine
section
variable {prog : Program} {w : World} {A : Around} {E : Value → Shared → Prop} {h h' : Heap} {κ : SortKind} {lt : Nat → Nat → Bool} {vs : List Value}
theorem t_sorted {l : Addr} {Q : Value → Heap → Prop} (hl : h.IsList l vs.toArray) (hz : vs.length ≤ 100000) (k : 2 ≤ vs.length → ∀ D h₁,Sub [] h h₁ → h.get? D = none → KeysOk prog w A.in1.in1 h₁ D vs κ lt)
  (q : ∀ h' D o' (p : List Nat),Sub [] h h' → h.get? D = none → h'.get? D = some o' → IsLst o' (p.map fun i=>vs.getD i .none) → p.Perm (List.range vs.length) → (2 ≤ vs.length → Sor lt p) → Q (.ref D) h') : T prog w A (call (.builtin "sorted") [.ref l]) h Q:=fun s es=>by
 subst es
 refine Calls.call_function_entry kind_sorted plain_sorted entry_sorted (args_sorted1 _) ?_
 unfold Builtin.«sorted»
 refine wpAny_bind (m:=checkCount "sorted" 1 1 _) (wpAny_pure ?_)
 refine wpAny_bind (collect_list hl ?_ (by rw [sizeLine_eq]; omega))
 refine wpAny_bind (wpAny_newList ?_ (by rw [sizeLine_eq]; omega))
 have hsz : ((s.heap.push (seqObj "list" #[] 0)).update s.heap.objs.size (Obj.mapSeq (· ++ vs.toArray))).objs.size = s.heap.objs.size + 1:=by
  rw [Heap.size_update,size_push']
 have hoL : (((s.heap.push (seqObj "list" #[] 0)).update s.heap.objs.size (Obj.mapSeq (· ++ vs.toArray))).push (seqObj "list" vs.toArray 0)).get? (s.heap.objs.size + 1) = some (seqObj "list" vs.toArray 0):=by
  rw [← hsz]; exact Heap.get?_push_size _ rfl
 have keep : ∀ b o,s.heap.get? b = some o → (((s.heap.push (seqObj "list" #[] 0)).update s.heap.objs.size (Obj.mapSeq (· ++ vs.toArray))).push (seqObj "list" vs.toArray 0)).get? b = some o:=fun b o q=>by
  have hlt : b < s.heap.objs.size:=Heap.lt_size q
  rw [Heap.get?_push_ne _ _ _ (by rw [hsz]; exact Nat.ne_of_lt (Nat.lt_succ_of_lt hlt)),Heap.get?_update_ne _ _ _ _ (Nat.ne_of_lt hlt),Heap.get?_push_ne _ _ _ (Nat.ne_of_lt hlt)]
  exact q
 show wpAny _ _ _ _ _ { s with heap:=((s.heap.push (seqObj "list" #[] 0)).update s.heap.objs.size (Obj.mapSeq (· ++ vs.toArray))).push (seqObj "list" vs.toArray 0) }
 rw [hsz]
 have hn : s.heap.get? (s.heap.objs.size + 1) = none:=Heap.get?_none_of_le (Nat.le_succ _)
 refine wpAny_bind (wpAny_holding (wpAny_call_entry slot_list_sort ⟨_,hoL,rfl⟩ entry_list_sort ?body (args_list_sort _)))
 case body =>
  refine sort_any (s:={ s with heap:=((s.heap.push (seqObj "list" #[] 0)).update s.heap.objs.size (Obj.mapSeq (· ++ vs.toArray))).push (seqObj "list" vs.toArray 0) }) (κ:=κ) (lt:=lt) hoL hz (fun h2=>k h2 _ _ (fun b o zz e=>keep b o e) hn) fun h' n' tk p sb ho' hp hs=>⟨_,rfl,wpAny_pure ⟨_,rfl, ?_⟩⟩
  exact ⟨h',tk,q h' _ _ p (fun b o nb e=>sb b o (fun z=>by rw [List.mem_singleton.mp z,hn] at e; cases e) (keep b o e)) hn ho' ⟨n',rfl⟩ hp hs⟩
end
end Mine
end
section
namespace Mine
section
variable {prog : Program} {w : World} {A : Around} {E : Value → Shared → Prop} {h h' : Heap} {κ : SortKind} {lt : Nat → Nat → Bool} {vs : List Value}
theorem WOrd.of {α : Type} (key : Nat → α) (r : α → α → Bool) (h1 : ∀ a b,r a b = true → r b a = false) (h2 : ∀ a b c,r b a = false → r c b = false → r c a = false) : WOrd fun i j=>r (key i) (key j):=⟨fun zz zz=>h1 _ _,fun zz zz zz=>h2 _ _ _⟩
theorem KeysOk.ints {a : Addr} {ns : List Int} (hi : IntsAre vs ns) (h2 : 2 ≤ vs.length) : KeysOk prog w A h a vs oneType' fun i j=>decide (ns.getD i 0 < ns.getD j 0) where
 ord:=WOrd.of (fun i=>ns.getD i 0) (fun x y=>decide (x < y)) (fun a b h=>by rw [decide_eq_true_eq] at h; rw [decide_eq_false_iff_not]; omega) fun a b c h1 h2=>by rw [decide_eq_false_iff_not] at *; omega
 kind:=fun s E P sb p=>by
  obtain ⟨v₁,v₂,r,rfl⟩ : ∃ v₁ v₂ r,vs = v₁ :: v₂ :: r:=by
   match vs,h2 with
   | v₁ :: v₂ :: r,_=>exact ⟨v₁,v₂,r,rfl⟩
  rw [keyKind_ints hi]
  exact wpAny_pure p
 cmp:=fun s i j P sb hi' hj p=>by
  have get : ∀ k,k < vs.length → ∃ t,vs.getD k .none = .int (ns.getD k 0) t:=fun k hk=>by
   have hn:=hi.length
   obtain ⟨u,e⟩:=hi.get k (ns[k]'(by omega)) (by walk_at "ms")
   refine ⟨u, ?_⟩
   rw [List.getD_eq_getElem?_getD,e,List.getD_eq_getElem?_getD,List.getElem?_eq_getElem (by omega)]
   rfl
  obtain ⟨t,e1⟩:=get i hi'
  obtain ⟨u,e2⟩:=get j hj
  rw [e1,e2]
  exact kat_lt_int (p s.toks)
end
end Mine
end
section
namespace Mine
section
variable {X : Fm} {Γ : Ctx} {prog : Program} {w : World} {A : Around} {E' : Value → Shared → Prop} {h h' : Heap} {κ : SortKind} {lt : Nat → Nat → Bool} {vs : List Value}
theorem KeysOk.up {a : Addr} (k : KeysOk prog w A h a vs κ lt) (s : Sub [] h h') : KeysOk prog w A h' a vs κ lt where
 ord:=k.ord
 kind:=fun s' E P sb=>k.kind s' E P fun b o nb e=>sb b o nb (s b o (by walk_at "ms") e)
 cmp:=fun s' i j P sb=>k.cmp s' i j P fun b o nb e=>sb b o nb (s b o (by walk_at "ms") e)
theorem Reps.pick {F R : Store} {xs : List PV} (r : Reps prog w F R vs xs) : ∀ (p : List Nat),(∀ i ∈ p,i < vs.length) → Reps prog w F R (p.map fun i=>vs.getD i .none) (p.map fun i=>xs.getD i .none)
 | [],_ => .nil
 | i :: p,hp=>by
  have hl:=r.length
  have hi:=hp i (.head _)
  obtain ⟨v,e,rv⟩:=r.get (i:=i) (x:=xs[i]'(by omega)) (by walk_at "ms")
  rw [List.map_cons,List.map_cons]
  refine .cons ?_ (Reps.pick r p fun j hj=>hp j (.tail _ hj))
  rw [List.getD_eq_getElem?_getD,e,List.getD_eq_getElem?_getD,List.getElem?_eq_getElem (by omega)]
  exact rv
theorem N.sorted (ok : FmOk X) {f : Str} {pf pos : Pos} {e : PySem.Expr} {p : PV} {xs zs : List PV} (ef : E X Γ (.Name f pf) (.raw (.builtin "sorted"))) (ee : E X Γ e p) (il : IsL p xs) (hz : xs.length ≤ 100000)
  (hk : ∀ {A : Around} {F R : Store} {h : Heap} {D : Addr} {vs : List Value},(∀ a o,F a o ∨ R a o → h.get? a = some o) → h.get? D = none → Reps X.prog X.w F R vs xs → 2 ≤ vs.length → KeysOk X.prog X.w A h D vs κ lt)
  (hres : ∀ p : List Nat,p.Perm (List.range xs.length) → (2 ≤ xs.length → Sor lt p) → p.map (fun i=>xs.getD i .none) = zs) (hst : noStars [e] = true) : N X Γ (.Call (.Name f pf) [e] [] pos) (.list zs):=fun F m l h H =>
 call_T ef (.cons ee .nil) H (fun F₁ h₁ vs le₁ H₁ rs=>⟨Keeps.builtin,by
  obtain ⟨_,rfl,r1⟩:=rs.one
  obtain ⟨a,us,rfl,hl,rs⟩:=H₁.lst ok il r1
  have hlen:=rs.length
  refine TP.of (t_sorted (κ:=κ) (lt:=lt) hl (by omega) (fun h2 D h₂ sb hn=>(hk (fun b o e=>e.elim (fun e=>(H₁.fz b o e).1) (H₁.rs ok)) hn rs h2).up sb) fun h' D o' q sb hn ho' il' hp hs => ?_)
  have res:=hres q (by rw [← hlen]; exact hp) (by rw [← hlen]; exact hs)
  exact ⟨F₁,D,o',le₁,H₁.sub sb,rfl,ho',H₁.fresh hn,.list il' (by rw [← res]; exact rs.pick q fun i hi=>by simpa using hp.mem_iff.mp hi)⟩⟩) hst
end
end Mine
end
section
namespace Mine
section
variable {X : Fm} {Γ Γ' : Ctx} {F : Store} {m : Str → Option Value} {l : List (Addr × Obj)} {h h' : Heap} {Q : Out → Prop} {rest : List Stmt}
theorem Rep.tx {prog : Program} {w : World} {F R : Store} {v : Value} {s : Str} (r : Rep prog w F R v (.str s)) : ∃ t,v = .str s t:=r.inv
theorem E.catS {a b : PySem.Expr} {pos : Pos} {x y : Str} (ea : E X Γ a (.str x)) (eb : E X Γ b (.str y)) (hz : x.length + y.length ≤ 16777216) : E X Γ (.BinOp a .Add b pos) (.str (x ++ y)):=E.bin ea eb fun F m l h u v H ru rv=>by
 obtain ⟨t₁,rfl⟩:=ru.tx; obtain ⟨t₂,rfl⟩:=rv.tx
 exact TP.of fun s es=>by
  subst es
  exact PyProof.Rows.add_str (fun t' tk=>⟨_,tk,F,fun zz zz e=>e,H,.str _ t'⟩) (by rw [sizeLine_eq]; omega)
theorem Cmp.eqS {x y : Str} : Cmp X .Eq (.str x) (.str y) (x == y):=fun Γ F m l h u v H ru rv=>by
 obtain ⟨t₁,rfl⟩:=ru.tx; obtain ⟨t₂,rfl⟩:=rv.tx
 exact TP.of fun s es=>by
  subst es
  exact PyProof.Rows.eq_str ⟨_,s.toks,F,fun zz zz e=>e,H,.bool _⟩
theorem Cmp.neS {x y : Str} : Cmp X .NotEq (.str x) (.str y) (x != y):=fun Γ F m l h u v H ru rv=>by
 obtain ⟨t₁,rfl⟩:=ru.tx; obtain ⟨t₂,rfl⟩:=rv.tx
 exact TP.of fun s es=>by
  subst es
  exact PyProof.Rows.ne_str ⟨_,s.toks,F,fun zz zz e=>e,H,.bool _⟩
theorem Cmp.inS {x y : Str} : Cmp X .In (.str y) (.str x) (!(Builtin.Str.occurrences x y 0 x.length 1).isEmpty):=fun Γ F m l h u v H ru rv=>by
 obtain ⟨t₁,rfl⟩:=ru.tx; obtain ⟨t₂,rfl⟩:=rv.tx
 exact TP.of fun s es=>by
  subst es
  exact PyProof.Rows.in_str ⟨_,s.toks,F,fun zz zz e=>e,H,.bool _⟩
theorem E.lenS {f : Str} {pf pos : Pos} {e : PySem.Expr} {x : Str} (ef : E X Γ (.Name f pf) (.raw (.builtin "len"))) (ee : E X Γ e (.str x)) (hz : x.length < 2 ^ 62) (hst : noStars [e] = true) : E X Γ (.Call (.Name f pf) [e] [] pos) (.int x.length) :=
 E.callB ef (.cons ee .nil) (fun F m l h vs H rs=>⟨Keeps.builtin,by
  obtain ⟨_,rfl,r1⟩:=rs.one
  obtain ⟨t,rfl⟩:=r1.tx
  exact TP.of fun s es=>by
   subst es
   exact PySem.P.len_str (by omega) ⟨_,_,F,fun zz zz e=>e,H,.int _ _⟩⟩) hst
theorem E.chr {f : Str} {pf pos : Pos} {e : PySem.Expr} {i : Nat} (ef : E X Γ (.Name f pf) (.raw (.builtin "chr"))) (ee : E X Γ e (.int i)) (hz : i < 100000) (hst : noStars [e] = true) : E X Γ (.Call (.Name f pf) [e] [] pos) (.str ⟨#[i]⟩) :=
 E.callB ef (.cons ee .nil) (fun F m l h vs H rs=>⟨Keeps.builtin,by
  obtain ⟨_,rfl,r1⟩:=rs.one
  obtain ⟨t,rfl⟩:=r1.i
  exact TP.of fun s es=>by
   subst es
   exact PySem.P.chr_of_int (by rw [Bool.or_eq_false_iff,decide_eq_false_iff_not,decide_eq_false_iff_not]; omega) ⟨_,_,F,fun zz zz e=>e,H,.str _ _⟩⟩) hst
theorem E.shl {a b : PySem.Expr} {pos : Pos} {i : Int} {n : Nat} (ea : E X Γ a (.int i)) (eb : E X Γ b (.int n)) (hz : (Builtin.Int.intBits i : Int) + n ≤ 2 ^ 27) : E X Γ (.BinOp a .LShift b pos) (.int (i * 2 ^ n)):=E.bin ea eb fun F m l h u v H ru rv=>by
 obtain ⟨t₁,rfl⟩:=ru.i; obtain ⟨t₂,rfl⟩:=rv.i
 exact TP.of fun s es=>by
  subst es
  exact PyProof.Rows.lshift_int (Int.natCast_nonneg n) hz ⟨_,_,F,fun zz zz e=>e,H,.int _ _⟩
theorem E.bor {a b : PySem.Expr} {pos : Pos} {i j : Int} (ea : E X Γ a (.int i)) (eb : E X Γ b (.int j)) : E X Γ (.BinOp a .BitOr b pos) (.int (Builtin.bitOr i j)):=E.bin ea eb fun F m l h u v H ru rv=>by
 obtain ⟨t₁,rfl⟩:=ru.i; obtain ⟨t₂,rfl⟩:=rv.i
 exact TP.of fun s es=>by
  subst es
  exact PyProof.Rows.or_int ⟨_,_,F,fun zz zz e=>e,H,.int _ _⟩
theorem E.band {a b : PySem.Expr} {pos : Pos} {i j : Int} (ea : E X Γ a (.int i)) (eb : E X Γ b (.int j)) : E X Γ (.BinOp a .BitAnd b pos) (.int (Builtin.bitAnd i j)):=E.bin ea eb fun F m l h u v H ru rv=>by
 obtain ⟨t₁,rfl⟩:=ru.i; obtain ⟨t₂,rfl⟩:=rv.i
 exact TP.of fun s es=>by
  subst es
  exact PyProof.Rows.and_int ⟨_,_,F,fun zz zz e=>e,H,.int _ _⟩
theorem Ex.iaddS (ok : FmOk X) {x : Str} {px pos : Pos} {e : PySem.Expr} {i j : Str} (hi : Γ.lookup x = some (.fz (.str i))) (ee : E X Γ e (.str j)) (hx : Sto X x) (hz : i.length + j.length ≤ 16777216) (r : Ex X ((x,.fz (.str (i ++ j))) :: Γ) rest Q) : Ex X Γ (.AugAssign (.Name x px) .Add e pos :: rest) Q := .cons fun F m l h H=>by
 refine TP.AugAssign_Name ?_
 obtain ⟨v,lk,bo⟩:=H.nm x _ hi
 have fin : TP X.prog X.w X.A (eval e X.env) h fun u h₂=>TP X.prog X.w X.A (inplaceOp .Add v u) h₂ fun r h₃=>TP X.prog X.w X.A (storeName X.env x r) h₃ fun zz=>OutOk X F (Kx X rest Q) .next:=by
  refine E.go ee H fun F₁ u h₁ le₁ H₁ r₁ => ?_
  obtain ⟨_,rfl⟩:=r₁.tx
  obtain ⟨_,rfl⟩:=Rep.tx bo
  exact TP.of fun s es=>by
   subst es
   exact PyProof.Rows.iadd_str (fun t' tk=>⟨_,tk,(H₁.putF ok hx (.str _ t')).mono fun _ h₂ ⟨m',l',H₂⟩=>⟨_,F₁,m',l',le₁,H₂,r⟩⟩) (by rw [sizeLine_eq]; omega)
 rcases lk with ⟨k,hm⟩ | ⟨c,o,k,hc,ho,hv⟩
 ·exact TP.of (T.loadName ok.e H.s hm fin k)
 ·exact TP.of (t_loadCell ok.e k hc (ho.elim (H.s.led (c,o)) (H.xr ok)) hv fin)
end
end Mine
end
section
namespace Mine
noncomputable def sitS (x : Str) (t : Tok) (i : Nat) (o : Obj) : Prop:=o.cls = .type (strIterType x) ∧ o.data = .fields #[.str x t,.int i 0]
theorem iterTy (x : Str) : strIterType x = "str_ascii_iterator" ∨ strIterType x = "str_iterator" := by
 unfold strIterType; split <;> simp
theorem noval_sit {x : Str} {t : Tok} {i : Nat} {o : Obj} (y : sitS x t i o) : NoVal o:=⟨⟨strIterType x,by rcases iterTy x with e | e <;> rw [e] <;> decide +kernel,y.1⟩,fun v hv=>by rw [y.2] at hv; (cases hv),fun vs s t' hv z=>by rw [y.2] at hv; cases hv; cases z⟩
noncomputable def sgn (x : Str) (i : Nat) : Str:=⟨#[x.cps.getD i 0]⟩
theorem chV.is {x : Str} {i : Nat} {v : Value} (c : chV x i v) : ∃ u,v = .str (sgn x i) u:=by
 obtain ⟨c,u,e,rfl⟩:=c
 exact ⟨u,by rw [sgn,Array.getD_eq_getD_getElem?,e]; rfl⟩
section
variable {prog : Program} {w : World} {A : Around}
theorem Iter.text {I : Addr} {hb : Heap} {x y : Str} {t : Tok} {py : Pos} (hh : A.handled = none) : Iter prog w A I hb x.cps.size (chV x) (sitS x t) (.Name y py) where
 item:=fun i h o hi sb g st s es=>by
  subst es
  have fin : ∀ (h' : Heap),h'.IsStrIter I (strIterType x) x t (i + 1) → Heap.SameBut I s.heap h' → TPo s (fun r h' => ∃ v o',r = some v ∧ chV x i v ∧ Sub [I] s.heap h' ∧ h'.get? I = some o' ∧ sitS x t (i + 1) o') (some (.str ⟨#[x.cps[i]]⟩ s.toks)) { s with heap:=h',toks:=s.toks + 1 }:=fun h' ⟨o',g',c',d'⟩ hs=>⟨h',_,_,o',rfl,⟨_,_,Array.getElem?_eq_getElem hi,rfl⟩,Sub.same hs,g',c',d'⟩
  have hit : s.heap.IsStrIter I (strIterType x) x t i:=⟨o,g,st.1,st.2⟩
  rcases iterTy x with e | e
  ·rw [e] at hit fin
   exact wpAny_pyNext_ascii_item hit (Array.getElem?_eq_getElem hi) fun h' a b=>fin h' a b
  ·rw [e] at hit fin
   exact wpAny_pyNext_wide_item hit (Array.getElem?_eq_getElem hi) fun h' a b=>fin h' a b
 done:=fun h o sb g st s es=>by
  subst es
  have hit : s.heap.IsStrIter I (strIterType x) x t x.cps.size:=⟨o,g,st.1,st.2⟩
  have hn : x.cps[x.cps.size]? = none:=by simp
  rcases iterTy x with e | e
  ·rw [e] at hit
   exact wpAny_pyNext_ascii_end hh hit hn fun h' he=>⟨h',s.toks,rfl,Sub.ext he⟩
  ·rw [e] at hit
   exact wpAny_pyNext_wide_end hh hit hn fun h' he=>⟨h',s.toks,rfl,Sub.ext he⟩
 go:=fun zz zz zz zz zz zz zz=>T.eq rfl (T.pure rfl)
 self:=fun h o sb g st s es=>by
  subst es
  have hit : s.heap.IsStrIter I (strIterType x) x t 0:=⟨o,g,st.1,st.2⟩
  rcases iterTy x with e | e
  ·rw [e] at hit; exact wpAny_pyIter_striter_ascii hit ⟨s.heap,s.toks,rfl,rfl⟩
  ·rw [e] at hit; exact wpAny_pyIter_striter_wide hit ⟨s.heap,s.toks,rfl,rfl⟩
theorem p_SubStr {env : Env} {h : Heap} {value idx : PySem.Expr} {pos : Pos} {Q : Value → Heap → Prop}
  (t : TP prog w A (eval value env) h fun o h₁=>TP prog w A (eval idx env) h₁ fun i h₂ => ∃ x u k u',o = .str x u ∧ i = .int (k : Nat) u' ∧ k < x.cps.size ∧ k < 2 ^ 62 ∧ ∀ t,Q (.str (sgn x k) t) h₂)
  (hsub : ∀ o i,subscripted idx false o i = operate [o,i] (getItem o i):=by intro _ _; rfl) : TP prog w A (eval (.Subscript value idx pos) env) h Q:=fun s es hp=>by
 rw [eval_Subscript]
 refine wpAny_bind (wpAny_mono (t s es hp) (fun o s₁ h₁ => ?_) fun zz zz x=>x)
 obtain ⟨g₁,t₁,gs₁,hp,h₁⟩:=h₁
 refine wpAny_bind (wpAny_holding (wpAny_mono (h₁ _ rfl hp) (fun i s₂ h₂=>wpAny_bind (wpAny_standAt ?_)) fun zz zz x=>x))
 obtain ⟨g₂,t₂,gs₂,hp,x,u,k,u',rfl,rfl,hk,hz,q⟩:=h₂
 have hT : (⟨g₂,gs₂.1,gs₂.2,t₂,s.os⟩ : Shared).TypeIs (.str x u) "str" := typeIs_str _ x u
 refine wpAny_bind ?_
 rw [getitemInPython_of_ne hT.not_modules]
 refine wpAny_bind (wpAny_specialOf hT PySem.F.slot_str_getitem.lookup ?_)
 have hc : (seqIndex? (k : Int) x.length).bind (x.cps[·]?) = some (x.cps.getD k 0):=by
  have e1 : ¬ (k : Int) < 0:=Int.not_lt.mpr (Int.natCast_nonneg k)
  have e2 : ((0 : Int) ≤ k && decide ((k : Int) < (x.length : Int))) = true:=by rw [decide_eq_true (Int.natCast_nonneg k),decide_eq_true (Int.ofNat_lt.mpr (show k < x.length from hk))]; rfl
  unfold seqIndex?
  dsimp only
  rw [if_neg e1,if_pos e2,Int.toNat_natCast]
  show x.cps[k]? = _
  rw [Array.getD_eq_getD_getElem?,Array.getElem?_eq_getElem hk]; rfl
 have fin : wpAny (model prog w) A (operate [.str x u,.int k u'] (getItem (.str x u) (.int k u'))) (fun r s₃=>wpAny (model prog w) A (letTemporaryGo value (.str x u) r >>= fun zz=>pure r) (Po s Q) (fun zz zz=>False) s₃) (fun zz zz=>False) ⟨g₂,gs₂.1,gs₂.2,t₂,s.os⟩ :=
  wpAny_operating (PySem.P.getItem_str (by rw [Bool.or_eq_false_iff,decide_eq_false_iff_not,decide_eq_false_iff_not]; omega) hc (wpAny_bind (wpAny_letTemporaryGo (wpAny_pure ⟨_,_,gs₂,hp.up (Nat.le_succ _),q _⟩))))
 have fin':=wpAny_bind fin
 rw [← hsub] at fin'
 exact wpAny_pure fin'
end
section
variable {X : Fm} {Γ Γ' : Ctx} {F : Store} {m : Str → Option Value} {l : List (Addr × Obj)} {h h' : Heap} {Q : Out → Prop} {rest : List Stmt}
theorem It.text (ok : FmOk X) {iter : PySem.Expr} {x : Str} {px : Pos} {s : Str} (ee : E X Γ iter (.str s)) : It X Γ iter (.Name x px) s.cps.size fun i => .str (sgn s i):=fun F m l h H=>E.go ee H fun F' v h₁ le H₁ r=>by
 obtain ⟨t,rfl⟩:=r.tx
 refine ⟨F',le,H₁,TP.of fun s₁ es => ?_⟩
 subst es
 exact wpAny_pyIter_strU ⟨_,s₁.toks,s₁.heap.objs.size,_,sitS s t,chV s,rfl,Sub.push _ _,get_size_none _,get_push_self _ _,⟨rfl,rfl⟩,fun i o h=>noval_sit h,fun h st=>Iter.text ok.hh,fun i v hi hv=>by
  obtain ⟨u,rfl⟩:=hv.is
  exact .str _ u⟩
theorem E.subS {value idx : PySem.Expr} {pos : Pos} {s : Str} {k : Nat} (ev : E X Γ value (.str s)) (ei : E X Γ idx (.int k)) (hk : k < s.cps.size) (hz : k < 2 ^ 62) (hsub : ∀ o i,subscripted idx false o i = operate [o,i] (getItem o i):=by intro _ _; rfl) : E X Γ (.Subscript value idx pos) (.str (sgn s k)):=fun F m l h H =>
 p_SubStr (E.go ev H fun F₁ u h₁ le₁ H₁ r₁=>E.go ei H₁ fun F₂ v h₂ le₂ H₂ r₂=>by
  obtain ⟨t₁,rfl⟩:=r₁.tx
  obtain ⟨t₂,rfl⟩:=r₂.i
  exact ⟨s,t₁,k,t₂,rfl,rfl,hk,hz,fun t=>⟨F₂,fun a o e=>le₂ a o (le₁ a o e),H₂,.str _ t⟩⟩) hsub
end
end Mine
end
section
namespace Mine
noncomputable def kdStr (prog : Program) (w : World) : Kd prog w Str where
 knd:=PySem.strKind prog w
 pv := .str
 rep:=fun r=>by obtain ⟨t,rfl⟩:=r.tx; exact ⟨PySem.strKind_is prog w _ t,rfl,rfl⟩
 sc:=fun k v u hv hu=>by obtain ⟨t,rfl⟩:=Value.isStrOf_shape hv; obtain ⟨t',rfl⟩:=Value.isStrOf_shape hu; rfl
theorem Reps.toStrs {prog : Program} {w : World} {F R : Store} {vs : List Value} {ss : List Str} (r : Reps prog w F R vs (ss.map .str)) : StrsAre vs ss:=by
 induction ss generalizing vs with
 | nil=>cases r; exact .nil
 | cons s ss ih =>
  cases r with
  | cons r1 r2 =>
   obtain ⟨t,rfl⟩:=r1.tx
   exact .cons s t (ih r2)
theorem any_str {k : Str} {ss : List Str} : (ss.any (· == k)) = decide (k ∈ ss):=by
 rw [Bool.eq_iff_iff,List.any_eq_true,decide_eq_true_eq]
 exact ⟨fun ⟨x,hx,e⟩=>eq_of_beq e ▸ hx,fun z=>⟨k,z,beq_self_eq_true k⟩⟩
theorem any_isStr {vs : List Value} {ss : List Str} {k : Str} (hi : StrsAre vs ss) : vs.toArray.any (PyProof.Rows.isStrOf k) = decide (k ∈ ss):=by
 rw [List.any_toArray,PyProof.Rows.any_isStrOf k hi,any_str]
section
variable {X : Fm} {Γ Γ' : Ctx} {F : Store} {m : Str → Option Value} {l : List (Addr × Obj)} {h h' : Heap} {Q : Out → Prop} {rest : List Stmt}
theorem Cmp.inLS (ok : FmOk X) {p : PV} {ss : List Str} {k : Str} (il : IsL p (ss.map .str)) : Cmp X .In (.str k) p (decide (k ∈ ss)):=fun Γ F m l h u v H ru rv=>by
 obtain ⟨a,vs,rfl,hl,rs⟩:=H.lst ok il rv
 obtain ⟨t,rfl⟩:=ru.tx
 refine TP.of fun s es => ?_
 subst es
 exact PySem.SeqAt.in_listAt (PyProof.Rows.isStrOf k) hl (fun y hy=>(PyProof.Rows.eq_isStrOf k t rs.toStrs y (by simpa using hy)).at _ _) ⟨s.heap,s.toks,F,fun zz zz e=>e,H,by rw [any_isStr rs.toStrs]; exact .bool _⟩
theorem Cmp.notInLS (ok : FmOk X) {p : PV} {ss : List Str} {k : Str} (il : IsL p (ss.map .str)) : Cmp X .NotIn (.str k) p (!decide (k ∈ ss)):=fun Γ F m l h u v H ru rv=>by
 obtain ⟨a,vs,rfl,hl,rs⟩:=H.lst ok il rv
 obtain ⟨t,rfl⟩:=ru.tx
 refine TP.of fun s es => ?_
 subst es
 exact PySem.SeqAt.notIn_listAt (PyProof.Rows.isStrOf k) hl (fun y hy=>(PyProof.Rows.eq_isStrOf k t rs.toStrs y (by simpa using hy)).at _ _) ⟨s.heap,s.toks,F,fun zz zz e=>e,H,by rw [any_isStr rs.toStrs]; exact .bool _⟩
end
noncomputable def sgns (s : Str) : List Str:=(List.range s.cps.size).map (sgn s)
theorem sgns_len (s : Str) : (sgns s).length = s.cps.size:=by simp [sgns]
theorem sgns_get {s : Str} {i : Nat} (hi : i < s.cps.size) : (sgns s)[i]? = some (sgn s i):=by simp [sgns,hi]
theorem chV.lt {x : Str} {i : Nat} {v : Value} (c : chV x i v) : i < x.cps.size:=by
 obtain ⟨c,u,e,_⟩:=c
 exact (Array.getElem?_eq_some_iff.mp e).1
section
variable {prog : Program} {w : World}
theorem SeqOk.text {x : Str} {t : Tok} (hz : x.cps.size < 2 ^ 62) : SeqOk prog w (.str x t) x.cps.size (chV x) fun zz=>True where
 en:=fun e hh h1 h2 H Inv hD hl h0 turn done=>tf_enumD EnumOf.text e hh h1 h2 H Inv hD hl h0 turn done
 len:=fun {A h Q} _ q s es=>by
  subst es
  exact PySem.P.len_str (by show ¬ ((x.cps.size : Int) ≥ 2 ^ 63); omega) ⟨_,_,q _⟩
 handed:=rfl
theorem itemsText {x : Str} : ItemsK (kdStr prog w).knd x.cps.size (chV x) (sgns x) where
 len:=(sgns_len x).symm
 ex:=fun i hi=>⟨.str ⟨#[x.cps[i]]⟩ 0,_,_,Array.getElem?_eq_getElem hi,rfl⟩
 at':=fun i v hv=>by
  have hi:=hv.lt
  obtain ⟨u,rfl⟩:=hv.is
  exact ⟨_,sgns_get hi,PySem.strKind_is prog w _ u,rfl,rfl⟩
theorem SeqP.text {s : Str} (hz : s.cps.size < 100000) : SeqP prog w (kdStr prog w) (.str s) (sgns s) where
 safe:=trivial
 ok:=fun {F R v} r=>by
  obtain ⟨t,rfl⟩:=r.tx
  exact ⟨rfl,rfl,(fun z=>by cases z),(fun a e=>by cases e),_,_,_,SeqOk.text (by omega),itemsText,fun zz zz=>trivial⟩
end
end Mine
end
section
namespace Mine
section
variable {prog : Program} {w : World} {A : Around} {K : Type} [DecidableEq K] {knd : KeyKind prog w K} {ax S I : Addr} {vs : List Value} {ks : List K}
structure KeysAre (knd : KeyKind prog w K) (vs : List Value) (ks : List K) : Prop where
 len : vs.length = ks.length
 at' : ∀ (i : Nat) (h : i < vs.length) (g : i < ks.length),knd.is ks[i] vs[i] = true ∧ vs[i].scannable = true
theorem fold_le : ∀ (ks acc : List K),(ks.foldl addK acc).length ≤ acc.length + ks.length
 | [],_=>Nat.le_refl _
 | k :: ks,acc=>Nat.le_trans (fold_le ks (addK acc k)) (by rw [List.length_cons]; have:=addK_len (ks:=acc) (k:=k); omega)
theorem uniq_le (ks : List K) : (uniq ks).length ≤ ks.length:=Nat.le_trans (fold_le ks []) (Nat.le_of_eq (Nat.zero_add _))
theorem SetOf.as {h : Heap} {a : Addr} {S S' : K → Bool} {n n' : Nat} (x : h.SetOf knd a S n) (e : S = S') (en : n = n') : h.SetOf knd a S' n':=by
 subst e; subst en; exact x
theorem SetOf.keep {h h' : Heap} {a : Addr} {S : K → Bool} {n : Nat} (x : h.SetOf knd a S n) (e : ∀ o,h.get? a = some o → h'.get? a = some o) : h'.SetOf knd a S n:=by
 obtain ⟨o,es,ep,t,ho,r⟩:=x
 exact ⟨o,es,ep,t,e o ho,r⟩
noncomputable abbrev setS (ks : List K) (k : K) : Bool:=decide (k ∈ uniq ks)
theorem set_loop (hh : A.handled = none) (hv : KeysAre knd vs ks) (hb : ks.length + 1 < scanBound) (n1 : S ≠ I) (n2 : S ≠ ax) (n3 : I ≠ ax) : ∀ (r i : Nat) (s : Shared) {R : Result → Shared → Prop},r + i = vs.length → s.heap.IsListIter I ax i → s.heap.IsList ax vs.toArray → s.heap.SetOf knd S (setS (ks.take i)) (uniq (ks.take i)).length →
  (∀ h' tk,Sub [S,I] s.heap h' → h'.SetOf knd S (setS ks) (uniq ks).length → R (.ok (.ret .none)) { s with heap:=h',toks:=tk }) → codeAny (model prog w) A (.builtin "set.update.loop" ⟨[.ref S,.ref I],[]⟩) R s:=by
 intro r
 induction r with
 | zero =>
  intro i s R hr hit hl hS q
  obtain rfl : i = vs.length:=by omega
  refine codeAny_builtin PyProof.Rows.F.entry_set_update_loop ?_
  rw [Around.under_plainId PyProof.Rows.F.plain_set_update_loop _]
  show wpAny _ A.in1 (pyNext (.ref I) >>= _) _ _ s
  refine wpAny_bind (wpAny_pyNext_list_end (by simpa using hh) hit hl (by walk_at "ms") fun h' he => ?_)
  show wpAny _ A.in1 (ret Value.none) _ _ _
  refine wpAny_pure (q h' s.toks (fun b o nb eb=>(Sub.ext he) b o (fun z=>nb (.tail _ z)) eb) ?_)
  rw [hv.len,List.take_length] at hS
  exact SetOf.keep hS fun o e=>Sub.ext he S o (fun z=>n1 (List.mem_singleton.mp z)) e
 | succ r ih =>
  intro i s R hr hit hl hS q
  have hi : i < vs.length:=by omega
  have hi' : i < ks.length:=by rw [← hv.len]; exact hi
  obtain ⟨k1,k2⟩:=hv.at' i hi hi'
  refine codeAny_builtin PyProof.Rows.F.entry_set_update_loop ?_
  rw [Around.under_plainId PyProof.Rows.F.plain_set_update_loop _]
  show wpAny _ A.in1 (pyNext (.ref I) >>= _) _ _ s
  refine wpAny_bind (wpAny_pyNext_list_item hit hl (x:=vs[i]) (by simp [hi]) fun h₁ hit₁ hs₁ => ?_)
  show wpAny _ A.in1 (holding [vs[i]] (setAdd S vs[i]) >>= _) _ _ _
  refine wpAny_bind (wpAny_holding ?_)
  unfold setAdd
  refine wpAny_holding (wpAny_bind (knd.pyHash k1 ?_))
  have hS₁ : h₁.SetOf knd S (setS (ks.take i)) (uniq (ks.take i)).length:=SetOf.keep hS fun o e=>(Sub.same hs₁) S o (fun z=>n1 (List.mem_singleton.mp z)) e
  have hroom : (uniq (ks.take i)).length + 1 < scanBound:=by
   have:=uniq_le (ks.take i)
   rw [List.length_take] at this
   omega
  refine wpAny_setAddHashed_of (s:=⟨h₁,s.gens,s.drawn,s.toks + 1,s.os⟩) k1 k2 hS₁ hroom fun h₂ hs₂ hS₂ => ?_
  have tk : ks.take (i + 1) = ks.take i ++ [ks[i]]:=by rw [List.take_add_one,List.getElem?_eq_getElem hi']; rfl
  have hS₃ : h₂.SetOf knd S (setS (ks.take (i + 1))) (uniq (ks.take (i + 1))).length:=by
   rw [tk,uniq_snoc]
   by_cases c : ks[i] ∈ uniq (ks.take i)
   ·rw [addK,if_pos c]
    rw [show setS (ks.take i) ks[i] = true from decide_eq_true c,if_pos rfl] at hS₂
    refine SetOf.as hS₂ (funext fun k => ?_) rfl
    rw [setS,setS,uniq_snoc,addK,if_pos c,Bool.or_eq_left_iff_imp,decide_eq_true_eq,decide_eq_true_eq]
    exact fun e=>e ▸ c
   ·rw [addK,if_neg c]
    rw [show setS (ks.take i) ks[i] = false from decide_eq_false c,if_neg Bool.false_ne_true] at hS₂
    refine SetOf.as hS₂ (funext fun k => ?_) (by rw [List.length_append]; rfl)
    rw [setS,setS,uniq_snoc,addK,if_neg c,Bool.eq_iff_iff,Bool.or_eq_true,decide_eq_true_eq,decide_eq_true_eq,decide_eq_true_eq,List.mem_append,List.mem_singleton]
  have ofS : ∀ b o,b ≠ S → b ≠ I → s.heap.get? b = some o → h₂.get? b = some o:=fun b o z1 z2 e=>(Sub.same hs₂) b o (fun z=>z1 (List.mem_singleton.mp z)) ((Sub.same hs₁) b o (fun z=>z2 (List.mem_singleton.mp z)) e)
  refine wpAny_pure ⟨plainId_quiet PyProof.Rows.F.plain_set_update_loop _,ih (i + 1) _ (by omega) ?_ ?_ hS₃ fun h' tk sb hS'=>q h' tk (fun b o nb eb=>sb b o nb (ofS b o (fun z=>nb (z ▸ .head _)) (fun z=>nb (z ▸ .tail _ (.head _))) eb)) hS'⟩
  ·obtain ⟨o,g1,g2⟩:=hit₁
   exact ⟨o,(Sub.same hs₂) I o (fun z=>n1 (List.mem_singleton.mp z).symm) g1,g2⟩
  ·obtain ⟨o,g1,g2⟩:=hl
   exact ⟨o,ofS ax o n2.symm n3.symm g1,g2⟩
theorem t_setList {h : Heap} {Q : Value → Heap → Prop} (hh : A.handled = none) (hl : h.IsList ax vs.toArray) (hv : KeysAre knd vs ks) (hb : ks.length + 1 < scanBound)
  (q : ∀ a h',Sub [] h h' → h.get? a = none → h'.SetOf knd a (setS ks) (uniq ks).length → Q (.ref a) h') : T prog w A (PySem.call (.type "set") [.ref ax]) h Q:=fun s es=>by
 subst es
 obtain ⟨c,tl,hmro⟩:=PySem.F.called_set.mro
 have hmade:=PySem.F.called_set.made
 have hsub:=PySem.F.called_set.sub
 refine wpAny_call (codeAny_of_tree ?_)
 show wpAny _ _ (callAny (.type "set") _) _ _ _
 refine wpAny_pure ⟨Code.quiet_builtin _ (by decide +kernel),codeAny_builtin PySem.F.entry_type_call ?_⟩
 rw [Around.under_plain (weight_type_call_type "set" [.ref ax] []) rfl]
 have h1:=PySem.F.called_set.notType
 have h2:=PySem.F.called_set.canCreate
 have hct:=PySem.F.typeCall_set_1 (.ref ax)
 repeat (any_goals (first | assumption | wp_step))
 refine codeAny_mono (code_set_new_1 (.ref ax) (E:=fun zz zz=>False) (Q₁:=fun obj s₁ => ∃ led : Bool,obj = .ref s.heap.objs.size ∧ s₁ = { s with heap:=s.heap.push { cls := .type "set",dict:=none,data := .set #[] 0 (.fresh 0 0 led) } }) fun led=>⟨led,rfl,rfl⟩) fun r s₁ hr => ?_
 cases r with
 | error e=>exact hr
 | ok fl =>
  cases fl with
  | ret obj =>
   obtain ⟨led,rfl,rfl⟩:=hr
   have hS : (s.heap.push { cls := .type "set",dict:=none,data := .set #[] 0 (.fresh 0 0 led) }).get? s.heap.objs.size = some { cls := .type "set",dict:=none,data := .set #[] 0 (.fresh 0 0 led) }:=Heap.get?_push_size _ rfl
   have hT : Shared.TypeIs { s with heap:=s.heap.push { cls := .type "set",dict:=none,data := .set #[] 0 (.fresh 0 0 led) } } (.ref s.heap.objs.size) "set" := ⟨_,hS,rfl⟩
   have hli:=PySem.F.called_set.init.lookup
   have hbi:=PySem.F.called_set.init.bind (.ref s.heap.objs.size)
   repeat (any_goals (first | assumption | wp_step))
   refine codeAny_mono (codeAny_call_builtin (R:=wants (fun r s₂=>r = .none ∧ ∃ h' tk,s₂ = { s with heap:=h',toks:=tk } ∧ Q (.ref s.heap.objs.size) h') (fun zz zz=>False)) PySem.F.called_set.init.plain PySem.F.entry_set_init (check_set_init_1 hT ?_)) fun r₂ s₂ hr₂ => ?_
   ·have n0 : s.heap.get? s.heap.objs.size = none:=get_size_none _
    obtain ⟨ol,hol,hcl,nl,hdl⟩:=id hl
    have axlt : ax < s.heap.objs.size:=Heap.lt_size hol
    obtain ⟨ocls,odict,odata,oslots⟩:=ol
    simp only at hcl hdl
    subst hcl; subst hdl
    have hol' : (s.heap.push { cls := .type "set",dict:=none,data := .set #[] 0 (.fresh 0 0 led) }).get? ax = some { cls := .type "list",dict:=odict,data := .seq vs.toArray nl,slots:=oslots }:=Heap.get?_push_of_some _ hol
    have hsls:=PySem.F.sub_list_set
    have hslf:=PySem.F.sub_list_frozenset
    have hne : (Value.type "list" == Value.type "dict") = false:=by decide
    have hl1 : (s.heap.push { cls := .type "set",dict:=none,data := .set #[] 0 (.fresh 0 0 led) }).IsList ax vs.toArray:=⟨_,hol',rfl,nl,rfl⟩
    unfold Builtin.«set.__init__» noKeywords Builtin.Frozenset.updateFrom
    generalize hPI : pyIter = PI
    wp_walk
    subst hPI
    refine wpAny_pyIter_list hl1 ?_
    refine wpAny_bind (wpAny_runValue ?_)
    have hsz : (s.heap.push { cls := .type "set",dict:=none,data := .set #[] 0 (.fresh 0 0 led) }).objs.size = s.heap.objs.size + 1:=Heap.size_push ..
    refine set_loop (ax:=ax) (vs:=vs) (ks:=ks) (knd:=knd) (by simp [hh]) hv hb ?_ (Nat.ne_of_gt axlt) ?_ vs.length 0 _ (Nat.add_zero _) ⟨_,Heap.get?_push_size _ rfl,rfl,rfl⟩ (hl1.push _) ?_ fun h' tk sb hS' => ?_
    ·rw [hsz]; exact Nat.ne_of_lt (Nat.lt_succ_self _)
    ·rw [hsz]; exact Nat.ne_of_gt (Nat.lt_succ_of_lt axlt)
    ·have hget : ((s.heap.push { cls := .type "set",dict:=none,data := .set #[] 0 (.fresh 0 0 led) }).push { cls := .type "list_iterator",data := .fields #[.ref ax,.int 0 0] }).get? s.heap.objs.size = some { cls := .type "set",dict:=none,data := .set #[] 0 (.fresh 0 0 led) }:=Heap.get?_push_of_some _ hS
     exact SetOf.as ((PyProof.Rows.setObjOf_fresh (knd:=knd) led).setOf hget (by unfold scanBound; omega)) (funext fun k=>by simp [setS,uniq]) rfl
    ·show wpAny _ _ _ _ _ _
     refine wpAny_pure ?_
     show wpAny _ _ (ret Value.none) _ _ _
     refine wpAny_pure ⟨rfl,h',tk,rfl,q _ h' (fun b o zz e => ?_) n0 hS'⟩
     have hb:=Heap.lt_size e
     refine sb b o (fun z => ?_) (Heap.get?_push_of_some _ (Heap.get?_push_of_some _ e))
     rcases List.mem_cons.mp z with z | z
     ·exact absurd z (Nat.ne_of_lt hb)
     ·have z:=List.mem_singleton.mp z
      rw [hsz] at z
      exact absurd z (Nat.ne_of_lt (Nat.lt_succ_of_lt hb))
   ·cases r₂ with
    | error e=>exact hr₂
    | ok fl₂ =>
     cases fl₂ with
     | ret r =>
      obtain ⟨rfl,h',tk,rfl,q'⟩:=hr₂
      repeat (any_goals (first | assumption | wp_step))
      exact ⟨h',tk,q'⟩
     | _=>exact hr₂.elim
  | _=>exact hr.elim
end
end Mine
end
section
namespace Mine
section
variable {X : Fm} {Γ Γ' : Ctx} {F : Store} {m : Str → Option Value} {l : List (Addr × Obj)} {h h' : Heap} {Q : Out → Prop} {rest : List Stmt} {K : Type} [DecidableEq K]
theorem Reps.keysAre {R : Store} (kd : Kd X.prog X.w K) {vs : List Value} {ks : List K} (r : Reps X.prog X.w F R vs (ks.map kd.pv)) : KeysAre kd.knd vs ks where
 len:=by have:=r.length; rwa [List.length_map] at this
 at':=fun i hv hk=>by
  obtain ⟨v,e,rv⟩:=r.get (i:=i) (x:=kd.pv ks[i]) (by simp [hk])
  rw [List.getElem?_eq_getElem hv] at e
  obtain rfl:=Option.some.inj e
  exact ⟨(kd.rep rv).1,(kd.rep rv).2.1⟩
theorem E.setOfK (ok : FmOk X) (kd : Kd X.prog X.w K) {f : Str} {pf pos : Pos} {e : PySem.Expr} {p : PV} {ks : List K} (ef : E X Γ (.Name f pf) (.raw (.type "set"))) (ee : E X Γ e p) (il : IsL p (ks.map kd.pv)) (hz : ks.length < 1000) (hst : noStars [e] = true) : E X Γ (.Call (.Name f pf) [e] [] pos) (.obj (KSet kd.knd (uniq ks))) :=
 E.callB ef (.cons ee .nil) (fun F m l h vs H rs=>⟨Keeps.type,by
  obtain ⟨_,rfl,r1⟩:=rs.one
  obtain ⟨a,us,rfl,hl,rs⟩:=H.lst ok il r1
  refine TP.of (t_setList ok.hh hl (rs.keysAre kd) (by show _ < 4096; omega) fun b h' sb nn hS => ?_)
  obtain ⟨o,es,ep,t,ho,ex,dt,el,mem,small,fits,ln⟩:=id hS
  have fr:=H.fresh nn
  have H':=(H.sub sb).lay (o:=o) fr ho
  have ks' : ∀ F',KSet kd.knd (uniq ks) F' b o:=fun F'=>⟨uniq_nodup ks,by rw [← ln]; exact small,fun h2 e2=>⟨o,es,ep,t,e2,ex,dt,el,mem,small,fits,ln⟩⟩
  exact ⟨_,fun zz zz e => .inl e,H',.obj (.inr ⟨rfl,rfl⟩) (ks' _) (fun z=>z.ne ex.1 (by decide +kernel)) fun F' zz=>ks' F'⟩⟩) hst
theorem StrsAre.pairs {vs : List Value} {ss : List Str} (x : StrsAre vs ss) : ∃ l : List (Str × Tok),strValues l = vs ∧ l.map (·.1) = ss:=by
 induction x with
 | nil=>exact ⟨[],rfl,rfl⟩
 | cons y t _ ih =>
  obtain ⟨l,e1,e2⟩:=ih
  exact ⟨(y,t) :: l,by rw [← e1]; rfl,by rw [← e2]; rfl⟩
theorem E.join (ok : FmOk X) {pl : Sem Bool} {sep : Str} {kc : Nat} {px pa pc : Pos} {e : PySem.Expr} {p : PV} {ss : List Str} (ee : E X Γ e p) (il : IsL p (ss.map .str)) (hz : (ss.map (·.length)).sum + ss.length * sep.length ≤ 16777216) (hst : noStars [e] = true)
  (he : ∀ Q' h,(TP X.prog X.w X.A (eval (.Constant (.str sep) kc px) X.env) h fun ov h₁=>TP X.prog X.w X.A (getMethod ov (ofString "join") pl) h₁ fun fx h₂=>TP X.prog X.w X.A (PySem.callWith pc fx.1 fx.2 (backTo pc (starEach [e] X.env)) []) h₂ Q') → TP X.prog X.w X.A (eval (.Call (.Attribute (.Constant (.str sep) kc px) (ofString "join") pa) [e] [] pc) X.env) h Q') :
  E X Γ (.Call (.Attribute (.Constant (.str sep) kc px) (ofString "join") pa) [e] [] pc) (.str (Txt.join sep ss)):=fun F m l h H=>by
 refine he _ _ ?_
 refine TP.of (T.cStr fun t => ?_)
 refine TP.of fun s es => ?_
 refine PySem.GM.join ⟨s.heap,s.toks, ?_⟩
 rw [es]
 refine TP.callWith (E.go ee H fun F₁ v h₁ le₁ H₁ r₁=>⟨Keeps.builtin, ?_⟩) hst
 obtain ⟨a,vs,rfl,hl,rs⟩:=H₁.lst ok il r₁
 obtain ⟨ps,e1,e2⟩:=StrsAre.pairs rs.toStrs
 refine TP.of fun s₁ es₁ => ?_
 subst es₁
 exact PySem.SC.join (l:=ps) (by rw [e1]; exact hl) e2 (PyProof.Rows.joinOk_of hz) fun t' k=>⟨_,k,F₁,le₁,H₁,.str _ t'⟩
end
end Mine
end
section
namespace Mine
theorem E.bnW {X : Fm} {Γ : Ctx} {s : Scope} {cn : List Str} (ok : FmOk X) (hK : X.K = frag X.w.params) (sc : Sc X s cn) {f : Str} {v : Value} {pos : Pos} (hn : nsIn (frag X.w.params) mainGlobals f = some none) (hv : bootBuiltins f = some v) (hl : s.names.lookup f = some .globalImplicit) (hd : (f == ("__debug__" : Str)) = false) (hx : f ≠ "__name__") : E X Γ (.Name f pos) (.raw v) :=
 E.builtin ok (by rw [hK]; exact hn) hv ((sc.kind _).trans hl) hd hx
theorem get_intW {ns : List Int} {i : Nat} (hi : i < ns.length) : (ns.map PV.int)[i]? = some (.int (ns.getD i 0)):=by
 rw [List.getElem?_map,List.getElem?_eq_getElem hi]; simp [hi]
end Mine
end
section
namespace Mine
theorem fn_texts (P : Params) : FnOkC (frag P) at_law_texts fdOf_law_texts (bodyN (stN pwBody 7)) :=
 ⟨⟨obOf_law_texts P,by kernel_rfl!,rfl⟩,by kernel_rfl!,by kernel_rfl!,by kernel_rfl!,by kernel_rfl!,by kernel_rfl!,by kernel_rfl!,by kernel_rfl!,by kernel_rfl!⟩
theorem fn_popular (P : Params) : FnOkC (frag P) at_law_popular fdOf_law_popular (bodyN (stN pwBody 8)) :=
 ⟨⟨obOf_law_popular P,by kernel_rfl!,rfl⟩,by kernel_rfl!,by kernel_rfl!,by kernel_rfl!,by kernel_rfl!,by kernel_rfl!,by kernel_rfl!,by kernel_rfl!,by kernel_rfl!⟩
noncomputable def atS (x p : Str) : List Nat:=(List.range p.cps.size).filter fun i=>sgn p i == x
noncomputable def popS (x p : Str) (on : Bool) : Bool:=on && (decide ((200 : Int) ≤ p.length) && decide ((p.length : Int) < 100 * (((atS x p).length : Int) - 1)))
theorem atS_len (x p : Str) : (atS x p).length ≤ p.length:=by
 have:=List.length_filter_le (fun i=>sgn p i == x) (List.range p.cps.size)
 rwa [List.length_range] at this
theorem law_popular {prog : Program} {w : World} {x p : Str} {on : Bool} (hn : p.length < 1000) : PureFn prog w (frag w.params) 0 at_law_popular [.str x,.str p,.bool on] (.bool (popS x p on)):=by
 intro A h F vs hh room units G std args
 obtain ⟨v1,v2,v3,rfl⟩ : ∃ v1 v2 v3,vs = [v1,v2,v3]:=by
  cases args with | fz _ a=>cases a with | fz _ a=>cases a with | fz _ a=>cases a; exact ⟨_,_,_,rfl⟩
 refine (fn_run (lD:=[]) (ns:=[(ofString "sign"),(ofString "pattern"),(ofString "on")]) 0 (fun r zz=>r = .bool (popS x p on)) (fn_popular w.params) hh room units (fun h' s=>G.sub s) (fun a o e=>⟨std a o e,by simp⟩) (by walk_at "ms") (by walk_at "ms") (by kernel_rfl!) (by decide +kernel) rfl (by kernel_rfl!) args ?_)
 intro X ok sc cnew e1 e2 e3 e4 e5
 have hK : X.K = frag X.w.params:=by rw [e3,e2]
 have hl:=atS_len x p
 show Ex X [((ofString "sign"),.fz (.str x)),((ofString "pattern"),.fz (.str p)),((ofString "on"),.fz (.bool on))] _ _
 refine Ex.assign ok (p := .int ((atS x p).length : Nat)) (E.eq ?_ (E.len ok (by walk_at "bn") (E.ofN (N.comp ok sc [((ofString "sign"),.fz (.str x))] (n:=p.cps.size) (P:=fun i => .str (sgn p i)) (fun i=>sgn p i == x) (fun i => .str (sgn p i)) (by kernel_rfl!) (by kernel_rfl!) (cctx_cons (b := .fz (.str x)) (by walk_at "lk") (by kernel_rfl!) rfl cctx_nil) (It.toC (It.text ok (by walk_at "en"))) (by show p.length ≤ _; omega) (fun X' ok' sc' top i hi=>⟨[((ofString "x"),.fz (.str (sgn p i))),((ofString "sign"),.fz (.str x))], ?_, ?_,AsL.name ok' ((sc'.kind _).trans (by kernel_rfl!)),TB.one (B.compare (by walk_at "en") (by walk_at "en") Cmp.eqS),fun zz=>by walk_at "en"⟩) (fun i zz zz=>trivial))) (.list _) ?_ rfl)) trivial (by walk_at "ld") ?_
 ·rw [List.length_map]; rfl
 ·intro z b e
  simp only [List.lookup_cons] at e
  repeat' split at e
  all_goals first | (cases e; rfl) | simp at e
 ·walk_at "sb"
 ·rw [List.length_map]; exact Nat.lt_of_le_of_lt hl (by omega)
 ·refine Ex.ret (p := .bool (popS x p on)) (E.and2 (by walk_at "en") fun zz=>E.and2 (E.compare (E.lenS (by walk_at "bn") (by walk_at "en") (by omega) rfl) E.cInt Cmp.ge) fun zz=>E.one (E.compare (E.mulII E.cInt (E.sub (by walk_at "en") E.cInt) (mulL (by omega) (by omega))) (E.lenS (by walk_at "bn") (by walk_at "en") (by omega) rfl) Cmp.gt)) trivial rfl
end Mine
end
section
namespace Mine
theorem fmodN (x : Int) {n : Nat} (h : 0 < n) : ∃ i : Nat,x.fmod n = (i : Int) ∧ i < n:=by
 have h1:=Int.fmod_nonneg_of_pos x (show (0 : Int) < n by omega)
 have h2:=Int.fmod_lt_of_pos x (show (0 : Int) < n by omega)
 exact ⟨(x.fmod n).toNat,(Int.toNat_of_nonneg h1).symm,by omega⟩
noncomputable def fillS (n : Nat) : Str:=⟨((List.range n).map fun k=>1000 + k).toArray⟩
theorem join_ones : ∀ ns : List Nat,Str.join ⟨#[]⟩ (ns.map fun c=>⟨#[c]⟩) = ⟨ns.toArray⟩
 | []=>rfl
 | [c]=>rfl
 | c :: d :: r=>by
  have ih:=join_ones (d :: r)
  show (⟨#[c]⟩ : Str) ++ ⟨#[]⟩ ++ Str.join ⟨#[]⟩ ((d :: r).map fun c=>⟨#[c]⟩) = _
  rw [ih]
  show (⟨#[c] ++ #[] ++ (d :: r).toArray⟩ : Str) = _
  simp
theorem join_fill (n : Nat) : Txt.join (ofString "") ((List.range n).map fun k=>⟨#[1000 + k]⟩) = fillS n:=by
 show Builtin.Str.glued _ _ = _
 rw [StrLaws.glued_eq_join,show ofString "" = ⟨#[]⟩ by decide +kernel]
 have:=join_ones ((List.range n).map fun k=>1000 + k)
 rw [List.map_map] at this
 exact this
theorem fillS_len (n : Nat) : (fillS n).length = n:=by simp [fillS,Str.length]
noncomputable def abcS : Str:=ofString "a?bcd"
theorem abcS_len : abcS.cps.size = 5:=by decide +kernel
noncomputable def sgT (f t : Int) : Str:=sgn abcS ((t.fdiv 3).fmod (3 + f.fmod 3)).toNat
noncomputable def txtN (c f : Int) (ns : List Int) : Nat → Str
 | 0=>ofString ""
 | i + 1=>if ((ns.getD i 0).fmod 3 != c) = true then txtN c f ns i ++ sgT f (ns.getD i 0) else txtN c f ns i
theorem cat_len (a b : Str) : (a ++ b).length = a.length + b.length:=by
 show (a.cps ++ b.cps).size = _
 rw [Array.size_append]; rfl
theorem txtN_len (c f : Int) (ns : List Int) : ∀ i,(txtN c f ns i).length ≤ i
 | 0=>Nat.le_of_eq (show (ofString "").length = 0 by decide +kernel)
 | i + 1=>by
  show (if ((ns.getD i 0).fmod 3 != c) = true then txtN c f ns i ++ sgT f (ns.getD i 0) else txtN c f ns i).length ≤ i + 1
  split
  ·rw [cat_len]; exact Nat.succ_le_succ (txtN_len c f ns i)
  ·exact Nat.le_succ_of_le (txtN_len c f ns i)
noncomputable def size3 (f : Int) : Int:=([0,200,199,300,299] : List Int).getD ((f.fdiv 3).fmod 5).toNat 0
theorem size3_le (f : Int) : 0 ≤ size3 f ∧ size3 f ≤ 300:=by
 obtain ⟨i,e,hi⟩:=fmodN (f.fdiv 3) (n:=5) (by decide)
 unfold size3
 rw [show ((5 : Nat) : Int) = 5 from rfl] at e
 rw [e,Int.toNat_natCast]
 rcases (by omega : i = 0 ∨ i = 1 ∨ i = 2 ∨ i = 3 ∨ i = 4) with rfl | rfl | rfl | rfl | rfl <;> decide
noncomputable def patS (f : Int) (ns : List Int) : Str:=txtN 2 f ns ns.length ++ fillS (size3 f - (txtN 2 f ns ns.length).length).toNat
theorem ex_ifAddS {X : Fm} {Γ : Ctx} {rest : List Stmt} {Q : Out → Prop} (ok : FmOk X) {x : Str} {test e : PySem.Expr} {px pos pi : Pos} {i j : Str} {c : Bool} (t : B X Γ test c) (hi : Γ.lookup x = some (.fz (.str i))) (ee : E X Γ e (.str j)) (hx : Sto X x) (hz : i.length + j.length ≤ 16777216) (r : Ex X ((x,.fz (.str (if c = true then i ++ j else i))) :: Γ) rest Q) : Ex X Γ (.If test [.AugAssign (.Name x px) .Add e pos] [] pi :: rest) Q:=by
 refine Ex.ite t (fun h=>Ex.iaddS ok hi ee hx hz (Ex.nil ?_)) (fun h=>Ex.nil ?_)
 ·rw [h,if_pos rfl] at r; exact r
 ·rw [h,if_neg Bool.false_ne_true] at r
  refine Ex.weak (fun y b q => ?_) r
  by_cases z : y = x
  ·subst z; rw [look_here] at q; rw [← q]; exact hi
  ·rw [look_next z rfl] at q; exact q
theorem Ex.asSub {X : Fm} {Γ : Ctx} {rest : List Stmt} {Q : Out → Prop} {x : Str} {px pos ps : Pos} {v i : PySem.Expr} (r : ∀ v',v' = v → Ex X Γ (.Assign [.Name x px] (.Subscript v' i ps) pos :: rest) Q) : Ex X Γ (.Assign [.Name x px] (.Subscript v i ps) pos :: rest) Q:=r v rfl
theorem law_texts {prog : Program} {w : World} {f : Int} {ns : List Int} (hn : ns.length ≤ 100) : PureFn prog w (frag w.params) 0 at_law_texts [.int f,.list (ns.map .int)] (.tup [.str (txtN 1 f ns ns.length),.str (patS f ns)]):=by
 intro A h F vs hh room units G std args
 obtain ⟨v1,v2,rfl⟩ : ∃ v1 v2,vs = [v1,v2]:=by
  cases args with | fz _ a=>cases a with | fz _ a=>cases a; exact ⟨_,_,rfl⟩
 refine (fn_run (lD:=[]) (ns:=[(ofString "first"),(ofString "numbers")]) 0 (fun r zz=>r = .tup [.str (txtN 1 f ns ns.length),.str (patS f ns)]) (fn_texts w.params) hh room units (fun h' s=>G.sub s) (fun a o e=>⟨std a o e,by simp⟩) (by walk_at "ms") (by walk_at "ms") (by kernel_rfl!) (by decide +kernel) rfl (by kernel_rfl!) args ?_)
 intro X ok sc cnew e1 e2 e3 e4 e5
 have hK : X.K = frag X.w.params:=by rw [e3,e2]
 show Ex X [((ofString "first"),.fz (.int f)),((ofString "numbers"),.fz (.list (ns.map .int)))] _ _
 refine Ex.assign ok (p := .str (ofString "")) E.cStr trivial (by walk_at "ld") ?_
 refine Ex.assign ok (p := .str (ofString "")) E.cStr trivial (by walk_at "ld") ?_
 refine Ex.forIn ok (n:=(ns.map PV.int).length) (P:=fun i => .int (ns.getD i 0)) (It.listN ok (xs:=ns.map .int) (by walk_at "en") (Safes.ints ns) (fun i hi=>get_intW (by simpa using hi)))
  (fun i=>[((ofString "pattern"),.fz (.str (txtN 2 f ns i))),((ofString "text"),.fz (.str (txtN 1 f ns i))),((ofString "first"),.fz (.int f)),((ofString "numbers"),.fz (.list (ns.map .int)))])
  (fun i=>[((ofString "t"),.fz (.int (ns.getD i 0))),((ofString "pattern"),.fz (.str (txtN 2 f ns i))),((ofString "text"),.fz (.str (txtN 1 f ns i))),((ofString "first"),.fz (.int f)),((ofString "numbers"),.fz (.list (ns.map .int)))]) ?_ (fun i zz=>As.name ok (by walk_at "ld")) (fun i hi => ?_) ?_
 ·show ∀ x b,List.lookup x [((ofString "pattern"),Bind.fz (.str (ofString ""))),((ofString "text"),.fz (.str (ofString ""))),((ofString "first"),.fz (.int f)),((ofString "numbers"),.fz (.list (ns.map .int)))] = some b → _
  walk_at "sb"
 ·have hi' : i < ns.length:=by simpa using hi
  have t1:=txtN_len 1 f ns i
  have t2:=txtN_len 2 f ns i
  obtain ⟨k3,e3',hk3⟩:=fmodN f (n:=3) (by decide)
  rw [show ((3 : Nat) : Int) = 3 from rfl] at e3'
  obtain ⟨k,ek,hk⟩:=fmodN ((ns.getD i 0).fdiv 3) (n:=3 + k3) (by omega)
  have ek' : ((ns.getD i 0).fdiv 3).fmod (3 + f.fmod 3) = (k : Int):=by rw [e3',← ek,Int.natCast_add]; rfl
  have es : sgT f (ns.getD i 0) = sgn abcS k:=by rw [sgT,ek',Int.toNat_natCast]
  have one : (sgn abcS k).length = 1:=rfl
  refine Ex.assign ok (p := .str (sgT f (ns.getD i 0))) (E.eq (by rw [es]) (E.subS (s:=abcS) (k:=k) E.cStr (E.eq (x := .int (((ns.getD i 0).fdiv 3).fmod (3 + f.fmod 3))) (by rw [ek']) (E.mod (E.fdiv (by walk_at "en") E.cInt (by decide) (by decide)) (E.add E.cInt (E.mod (by walk_at "en") E.cInt (by decide))) (by omega))) (by rw [abcS_len]; omega) (by omega))) trivial (by walk_at "ld") ?_
  refine ex_ifAddS ok (c:=(ns.getD i 0).fmod 3 != 1) (i:=txtN 1 f ns i) (j:=sgT f (ns.getD i 0)) (B.compare (E.mod (by walk_at "en") E.cInt (by decide)) E.cInt Cmp.neI) (by walk_at "lk") (by walk_at "en") (by walk_at "ld") (by rw [es,one]; omega) ?_
  refine ex_ifAddS ok (c:=(ns.getD i 0).fmod 3 != 2) (i:=txtN 2 f ns i) (j:=sgT f (ns.getD i 0)) (B.compare (E.mod (by walk_at "en") E.cInt (by decide)) E.cInt Cmp.neI) (by walk_at "lk") (by walk_at "en") (by walk_at "ld") (by rw [es,one]; omega) ?_
  refine Ex.nil ?_
  show ∀ x b,List.lookup x [((ofString "pattern"),Bind.fz (.str (if ((ns.getD i 0).fmod 3 != 2) = true then txtN 2 f ns i ++ sgT f (ns.getD i 0) else txtN 2 f ns i))),((ofString "text"),Bind.fz (.str (if ((ns.getD i 0).fmod 3 != 1) = true then txtN 1 f ns i ++ sgT f (ns.getD i 0) else txtN 1 f ns i))),((ofString "first"),.fz (.int f)),((ofString "numbers"),.fz (.list (ns.map .int)))] = some b → _
  walk_at "sb"
 ·rw [List.length_map]
  have p2:=txtN_len 2 f ns ns.length
  have p1:=size3_le f
  generalize txtN 1 f ns ns.length = tx
  have hp : patS f ns = txtN 2 f ns ns.length ++ fillS (size3 f - (txtN 2 f ns ns.length).length).toNat:=rfl
  rw [hp]
  generalize txtN 2 f ns ns.length = pa at *
  clear hp
  generalize hsz : (size3 f - pa.length).toNat = n
  have hn3 : n ≤ 300:=by omega
  refine Ex.assign ok (p := .int (size3 f)) ?_ trivial (by walk_at "ld") ?_
  ·obtain ⟨i,e,hi⟩:=fmodN (f.fdiv 3) (n:=5) (by decide)
   rw [show ((5 : Nat) : Int) = 5 from rfl] at e
   refine E.subL ok (xs:=([0,200,199,300,299] : List Int).map PV.int) (i:=(f.fdiv 3).fmod 5) (E.ofN (N.disp ok (.cons E.cInt (.cons E.cInt (.cons E.cInt (.cons E.cInt (.cons E.cInt .nil))))) rfl (by walk_at "ms"))) (E.mod (E.fdiv (by walk_at "en") E.cInt (by decide) (by decide)) E.cInt (by decide)) (.list _) (by omega) (by omega) ?_
   unfold size3
   rw [e,Int.toNat_natCast]
   exact get_intW hi
  have ef : (((List.range n).filter fun zz=>true).map fun k=>PV.str ⟨#[1000 + k]⟩) = ((List.range n).map fun k=>(⟨#[1000 + k]⟩ : Str)).map .str:=by
   rw [List.filter_eq_self.mpr fun zz zz=>rfl,List.map_map]; rfl
  have len1 : (((List.range n).map fun k=>(⟨#[1000 + k]⟩ : Str)).map (·.length)).sum ≤ n:=by
   rw [List.map_map]
   clear ef hsz hn3
   induction n with
   | zero=>exact Nat.le_refl _
   | succ n ih =>
    rw [List.range_succ,List.map_append,List.sum_append]
    exact Nat.add_le_add ih (Nat.le_of_eq rfl)
  refine Ex.ret (p := .tup [.str tx,.str (pa ++ fillS n)]) (E.tup ok (.cons (by walk_at "en") (.cons (E.eq (by rw [join_fill]) (E.catS (by walk_at "en") (E.join ok (ss:=(List.range n).map fun k=>⟨#[1000 + k]⟩) (E.ofN (N.eq (congrArg PV.list ef) (N.comp ok sc [] (n:=n) (P:=fun i => .int i) (fun zz=>true) (fun i => .str ⟨#[1000 + i]⟩) (by kernel_rfl!) (by kernel_rfl!) cctx_nil (It.toC (It.num hsz (It.rangeI ok (by walk_at "bn") (E.sub (by walk_at "en") (E.lenS (by walk_at "bn") (by walk_at "en") (by omega) rfl)) (by omega) (by omega) rfl))) (by omega) (fun X' ok' sc' top i hi=>⟨[((ofString "k"),.fz (.int i))], ?_, ?_,AsL.name ok' ((sc'.kind _).trans (by kernel_rfl!)),TB.nil,fun zz=>E.chr (E.bnW ok' (by rw [top.K,top.w,hK]) sc' (by kernel_rfl!) (by kernel_rfl!) (by kernel_rfl!) (by decide +kernel) (by decide +kernel)) (E.eq (by rw [Int.natCast_add]; rfl) (E.add E.cInt (by walk_at "en"))) (by omega) rfl⟩) (fun i zz zz=>trivial)))) (.list _) ?_ rfl (fun Q' h t=>TP.Call_method t)) ?_)) .nil)) rfl (by walk_at "ms")) (by simp [Safe,Safes]) rfl
  ·intro z b e
   simp only [List.lookup_cons] at e
   repeat' split at e
   all_goals first | (cases e; rfl) | simp at e
  ·walk_at "sb"
  ·rw [List.length_map,List.length_range,show (ofString "").length = 0 by decide +kernel]
   omega
  ·rw [join_fill,fillS_len]
   omega
end Mine
end
section
namespace Mine
noncomputable abbrev lW (ns : List Int) : PV := .list (ns.map .int)
noncomputable abbrev lS (ss : List Str) : PV := .list (ss.map .str)
theorem fn_law3 (P : Params) : FnOkC (frag P) at_law fdOf_law (bodyN (stN pwBody 9)) :=
 ⟨⟨obOf_law P,by kernel_rfl!,rfl⟩,by kernel_rfl!,by kernel_rfl!,by kernel_rfl!,by kernel_rfl!,by kernel_rfl!,by kernel_rfl!,by kernel_rfl!,by kernel_rfl!⟩
theorem E.nameG {X : Fm} {Γ : Ctx} (ok : FmOk X) {x : Str} {p : PV} {a : Addr} {P : Obj → Prop} {pos : Pos} (hx : Γ.lookup x = some (.gh p a P)) (hd : (x == ("__debug__" : Str)) = false) : E X Γ (.Name x pos) p:=fun F m l h H=>by
 obtain ⟨v,lk,bo⟩:=H.nm x _ hx
 exact look_eval ok H lk hd ⟨F,fun zz zz e=>e,H,Rep.toRS bo.1⟩
theorem E.glW {X : Fm} {Γ : Ctx} {s : Scope} {cn : List Str} (ok : FmOk X) (hK : X.K = frag X.w.params) (sc : Sc X s cn) {f : Str} {v : Value} {pos : Pos} (hv : nsIn (frag X.w.params) mainGlobals f = some (some v)) (hl : s.names.lookup f = some .globalImplicit) (hd : (f == ("__debug__" : Str)) = false) : E X Γ (.Name f pos) (.raw v):=E.global ok (hK ▸ hv) ((sc.kind _).trans hl) hd
theorem ex_assignT2S {X : Fm} {Γ : Ctx} {rest : List Stmt} {Q : Out → Prop} (ok : FmOk X) {x y : Str} {px py tpos pos : Pos} {k : Nat} {e : PySem.Expr} {p q : PV} (ee : E X Γ e (.tup [p,q])) (hs : Safes [p,q]) (hx : Sto X x) (hy : Sto X y) (r : Ex X ((y,.fz q) :: (x,.fz p) :: Γ) rest Q)
  (hw : swappedStores [.Tuple [.Name x px,.Name y py] k tpos] e X.env = Pure.pure none:=by rfl) (hsw : swapsWithSole [.Tuple [.Name x px,.Name y py] k tpos] e pos.line X.env = Pure.pure false:=by rfl) : Ex X Γ (.Assign [.Tuple [.Name x px,.Name y py] k tpos] e pos :: rest) Q := .cons fun F m l h H=>fun s es hp=>by
 refine Assign_Tuple (wpAny_mono (ee F m l h H s es hp) ?_ fun zz zz z=>z.elim) hsw hw
 rintro v s₁ ⟨h₁,t₁,gs₁,hp₁,F₁,le₁,H₁,r₁⟩
 obtain ⟨a,o,vs,rfl,hF,lst,rs⟩:=r₁.inv
 obtain ⟨v1,v2,rfl,ra,rb⟩:=rs.two
 refine wpAny_assign_Tuple ok.hh (lst.isTuple (H₁.fz _ _ hF).1) (by rfl) (by rfl) fun h₄ hx₄ => ?_
 have H₄ : Holds X Γ F₁ m l h₄:=H₁.sub fun b ob zz eb=>hx₄ b ob (fun q=>by rw [q,get_size_none] at eb; cases eb) eb
 have ra' : Rep X.prog X.w F₁ X.XR v1 p:=ra.safe hs.1
 have rb' : Rep X.prog X.w F₁ X.XR v2 q:=rb.safe hs.2.1
 have key : TP X.prog X.w X.A (assignInOrder ((assignEach [.Name x px,.Name y py] X.env).map (·.2)) [v1,v2]) h₄ fun zz=>OutOk X F (Kx X rest Q) .next :=
  TP.eq (t':=(do PySem.holding [v2] (PySem.assign (.Name x px) X.env v1); assignInOrder ((assignEach [.Name y py] X.env).map (·.2)) [v2])) rfl (TP.bind (TP.holding ((As.name ok hx F₁ m l h₄ v1 H₄ ra').mono fun _ h₅ ⟨m5,l5,H₅⟩ =>
   TP.eq (t':=(do PySem.holding [] (PySem.assign (.Name y py) X.env v2); assignInOrder ((assignEach [] X.env).map (·.2)) [])) rfl (TP.bind (TP.holding ((As.name ok hy F₁ m5 l5 h₅ v2 H₅ rb').mono fun _ h₆ ⟨m6,l6,H₆⟩=>TP.pure ⟨_,F₁,m6,l6,le₁,H₆,r⟩))))))
 refine TP.nx key hp₁ ?_
 rintro _ h₅ t₅ gs₅ hp₅ z
 exact ⟨h₅,t₅,gs₅,hp₅,z⟩
noncomputable def first3 (script : List Int) : Int:=(script ++ [5]).getD 0 0
noncomputable def nums3 (script : List Int) : List Int:=script.drop 1 ++ [(script.length : Int),6,4,11,1,8,9,0,14,12,1]
theorem nums3_len {script : List Int} (hs : script.length ≤ 63) : (nums3 script).length ≤ 74:=by unfold nums3; simp; omega
noncomputable abbrev tx3 (f : Int) (ns : List Int) : Str:=txtN 1 f ns ns.length
theorem law_a {script : List Int} (hs : script.length ≤ 63) {X : Fm} (ok : FmOk X) (sc : Sc X fdOf_law.scope (cellNames fdOf_law.scope.names [])) (cnew : ∀ x c,X.env.cells.lookup x = some c → X.h₀.get? c = none) (hK : X.K = frag X.w.params) (hrd : 1 ≤ X.rd) {Q : Out → Prop}
  (r : Ex X [((ofString "pattern"),.fz (.str (patS (first3 script) (nums3 script)))),((ofString "text"),.fz (.str (tx3 (first3 script) (nums3 script)))),((ofString "first"),.fz (.int (first3 script))),((ofString "script"),.gh (lW script) 258 Pl0)] ((bodyN (stN pwBody 9)).drop 2) Q) :
  Ex X [((ofString "script"),.gh (lW script) 258 Pl0)] (bodyN (stN pwBody 9)) Q:=by
 refine Ex.assign ok (p := .int (first3 script)) (E.subL ok (E.ofN (N.cat ok (E.nameG ok (by walk_at "lk") (by decide +kernel)) (E.ofN (N.disp ok (.cons E.cInt .nil) rfl (by walk_at "ms"))) (.list (script.map .int)) (.list _) (by rw [List.length_map]; simp; omega))) E.cInt (.list _) (by omega) (by omega) ?_) trivial (by walk_at "ld") ?_
 ·cases script <;> rfl
 have hl:=nums3_len hs
 refine ex_assignT2S ok (p := .str (tx3 (first3 script) (nums3 script))) (q := .str (patS (first3 script) (nums3 script))) (E.callF ok (rd:=0) (ps:=[.int (first3 script),lW (nums3 script)]) (by walk_at "gl") (.cons (by walk_at "en") (.cons (E.ofN (N.eq ?_ (N.cat ok (E.ofN (N.from ok (a:=1) (E.nameG ok (by walk_at "lk") (by decide +kernel)) E.cInt (.list _) (by omega))) (E.ofN (N.disp ok (.cons (E.len ok (by walk_at "bn") (E.nameG ok (by walk_at "lk") (by decide +kernel)) (.list (script.map .int)) (by rw [List.length_map]; omega) rfl) (.cons E.cInt (.cons E.cInt (.cons E.cInt (.cons E.cInt (.cons E.cInt (.cons E.cInt (.cons E.cInt (.cons E.cInt (.cons E.cInt (.cons E.cInt .nil))))))))))) rfl (by walk_at "ms"))) (.list _) (.list _) (by simp; omega)))) .nil)) ⟨trivial,Safes.ints _,trivial⟩ (by rw [hK]; kernel_rfl!) (by omega) (hK ▸ law_texts (Nat.le_trans hl (by decide))) rfl) ⟨trivial,trivial,trivial⟩ (by walk_at "ld") (by walk_at "ld") r
 unfold nums3 lW
 rw [List.map_append,List.length_map]
 rfl
end Mine
end
section
namespace Mine
noncomputable def qS : Str:=ofString "?"
noncomputable def bS : Str:=ofString "b"
noncomputable def junks3 : List (List Str):=[[qS],[],[qS,bS]]
noncomputable def junk3 (f : Int) : List Str:=junks3.getD ((f.fdiv 15).fmod 3).toNat []
noncomputable def on3 (f : Int) : Bool:=(f.fdiv 45).fmod 2 == 0
theorem Safes.strs : ∀ ss : List Str,Safes (ss.map .str)
 | []=>trivial
 | _ :: ss=>⟨trivial,Safes.strs ss⟩
theorem memStrs {js : List Str} {prog : Program} {w : World} {F : Store} {A : Around} {h : Heap} {la : Addr} {o : Obj} {vs : List Value} {v : Value} {k : Str} (ho : h.get? la = some o) (hl : IsLst o vs) (r : Reps prog w F noF vs (js.map .str)) (hv : (kdStr prog w).knd.is k v = true) (_ : v.scannable = true) : T prog w A (compareOp .In v (.ref la)) h fun r h'=>r = .bool (decide (k ∈ js)) ∧ h' = h:=fun s es=>by
 subst es
 obtain ⟨t,rfl⟩:=Value.isStrOf_shape hv
 exact PySem.SeqAt.in_listAt (PyProof.Rows.isStrOf k) (hl.isList ho) (fun y hy=>(PyProof.Rows.eq_isStrOf k t r.toStrs y (by simpa using hy)).at _ _) ⟨s.heap,s.toks,by rw [any_isStr r.toStrs],rfl⟩
theorem free_some {X : Fm} {s : Scope} {cn : List Str} (sc : Sc X s cn) {names : List (Str × NameKind)} (h : (names.all fun y=>y.2 != .free || cn.contains y.1) = true) : ∀ z ∈ names,z.2 = .free → (X.env.cells.lookup z.1).isSome = true:=fun z hz hf=>by
 refine lookup_some_of_mem ?_
 rw [sc.c]
 have:=List.all_eq_true.mp h z hz
 rw [hf] at this
 simpa using this
theorem Cmp.isNotP {X : Fm} {P P' : Store → Addr → Obj → Prop} {a₀ : Addr} (h1 : ∀ F a o,P F a o → a = a₀) (h2 : ∀ F a o,P' F a o → a = a₀) : Cmp X .IsNot (.obj P) (.obj P') false:=fun Γ F m l h u u' H ru ru'=>by
 obtain ⟨a,o,rfl,_,p,_⟩:=ru.o
 obtain ⟨a',o',rfl,_,p',_⟩:=ru'.o
 obtain rfl:=h1 _ _ _ p
 obtain rfl:=h2 _ _ _ p'
 refine TP.of fun s es => ?_
 subst es
 exact wpAny_isNot_ref_self ⟨s.heap,s.toks,F,fun zz zz e=>e,H,.bool _⟩
theorem Cmp.isNotBool {X : Fm} {b c : Bool} : Cmp X .IsNot (.bool b) (.bool c) (b != c):=fun Γ F m l h u u' H ru ru'=>by
 rw [ru.b,ru'.b]
 refine TP.of fun s es => ?_
 subst es
 have e : (!(Value.bool b == Value.bool c)) = (b != c):=by cases b <;> cases c <;> rfl
 exact wpAny_isNot_plain rfl ⟨s.heap,s.toks,F,fun zz zz e=>e,H,by rw [e]; exact .bool _⟩
theorem law_b {f : Int} {tx pa : Str} {sv : PV} {X : Fm} (ok : FmOk X) (sc : Sc X fdOf_law.scope (cellNames fdOf_law.scope.names [])) (cnew : ∀ x c,X.env.cells.lookup x = some c → X.h₀.get? c = none) (hK : X.K = frag X.w.params) (hcode : X.env.code = .ref 260) {Q : Out → Prop}
  (r : ∀ tp,Safe tp → Cmp X .IsNot tp tp false → (∀ Γ : Ctx,Γ.lookup (ofString "junk") = some (.fz (lS (junk3 f))) → TestP X Γ (kdStr X.prog X.w) tp fun k=>decide (k ∈ junk3 f)) → Ex X [((ofString "on"),.fz (.bool (on3 f))),((ofString "test"),.fz tp),((ofString "junk"),.fz (lS (junk3 f))),((ofString "pattern"),.fz (.str pa)),((ofString "text"),.fz (.str tx))] ((bodyN (stN pwBody 9)).drop 5) Q) :
  Ex X [((ofString "pattern"),.fz (.str pa)),((ofString "text"),.fz (.str tx)),((ofString "first"),.fz (.int f)),((ofString "script"),.gh sv 258 Pl0)] ((bodyN (stN pwBody 9)).drop 2) Q:=by
 refine Ex.asSub ?_
 intro jv hjv
 refine Ex.assign ok (p:=lS (junk3 f)) ?_ (Safes.strs _) (by walk_at "ld") ?_
 ·obtain ⟨i,e,hi⟩:=fmodN (f.fdiv 15) (n:=3) (by decide)
  rw [show ((3 : Nat) : Int) = 3 from rfl] at e
  refine E.subL ok (xs:=[lS [qS],lS [],lS [qS,bS]]) (i:=(f.fdiv 15).fmod 3) ?_ (E.mod (E.fdiv (by walk_at "en") E.cInt (by decide) (by decide)) E.cInt (by decide)) (.list _) (by omega) (by omega) ?_
  ·rw [hjv]
   refine E.ofN ?_
   refine N.disp ok ?_ rfl (by walk_at "ms")
   refine .cons (E.ofN (N.disp ok (.cons E.cStr .nil) rfl (by walk_at "ms"))) ?_
   refine .cons (E.ofN (N.disp ok .nil rfl (by walk_at "ms"))) ?_
   exact .cons (E.ofN (N.disp ok (.cons E.cStr (.cons E.cStr .nil)) rfl (by walk_at "ms"))) .nil
  unfold junk3
  rw [e,Int.toNat_natCast]
  rcases (by omega : i = 0 ∨ i = 1 ∨ i = 2) with rfl | rfl | rfl <;> rfl
 generalize junk3 f = jk at *
 clear hjv
 have fin : ∀ tp,Safe tp → Cmp X .IsNot tp tp false → (∀ Γ : Ctx,Γ.lookup (ofString "junk") = some (.fz (lS jk)) → TestP X Γ (kdStr X.prog X.w) tp fun k=>decide (k ∈ jk)) → Ex X [((ofString "test"),.fz tp),((ofString "junk"),.fz (lS jk)),((ofString "pattern"),.fz (.str pa)),((ofString "text"),.fz (.str tx)),((ofString "first"),.fz (.int f))] ((bodyN (stN pwBody 9)).drop 4) Q:=fun tp a b c=>by
  refine Ex.assign ok (p := .bool (on3 f)) (E.compare (E.mod (E.fdiv (by walk_at "en") E.cInt (by decide) (by decide)) E.cInt (by decide)) E.cInt Cmp.eqI) trivial (by walk_at "ld") (Ex.weak ?_ (r tp a b c))
  walk_at "sb"
 by_cases hj : jk = []
 ·refine Ex.assign ok (p := .none) (E.ifExp (b:=false) (B.eq ?_ (B.compare (by walk_at "en") (E.ofN (N.disp ok .nil rfl (by walk_at "ms"))) (Cmp.neNil ok (.list (jk.map .str))))) (fun h=>by cases h) fun zz=>E.cNone) trivial (by walk_at "ld") (Ex.weak ?_ (fin .none trivial Cmp.isNotNone fun Γ zz => ?_))
  ·rw [hj]; rfl
  ·walk_at "sb"
  ·rw [hj]
   exact TestP.none
 ·refine ex_assignG ok (EG.ifTrue (B.eq ?_ (B.compare (by walk_at "en") (E.ofN (N.disp ok .nil rfl (by walk_at "ms"))) (Cmp.neNil ok (.list (jk.map .str))))) (EG.lambda ok hK (y:=(ofString "script")) (c:=260) (p:=258) (bm:=4) (obm:=PySem.W.boot_o_4 X.w.params) (by walk_at "lk") hcode (fun h G=>codeHd_of_K G.k (by kernel_rfl!)) rfl ?_ (by decide) (by kernel_rfl!) (by decide) (by decide) (by decide) (by kernel_rfl!) rfl rfl rfl)) (by walk_at "ld") ?_
  ·rw [List.length_map]
   have : jk.length ≠ 0:=fun z=>hj (List.length_eq_zero_iff.mp z)
   simp [this]
  ·exact free_some sc (by kernel_rfl!)
  refine Ex.pin ok look_here fun a => ?_
  refine Ex.weak ?sub (fin (.obj (PinP a (LamP ?q ?p ?b ?s ?c))) trivial (Cmp.isNotP (fun zz zz zz z=>z.1) fun zz zz zz z=>z.1) fun Γ hΓ => ?tp)
  case sub=>walk_at "sb"
  case tp =>
   refine TestP.lam ok hK (kdStr X.prog X.w) (y:=(ofString "junk")) (ps:=jk.map .str) hΓ (Safes.strs _) ((sc.kind _).trans (by kernel_rfl!)) ?_ (by decide +kernel) (fun zz zz zz zz=>rfl) (by decide +kernel) (by decide +kernel) (by decide +kernel) rfl rfl rfl (by decide +kernel) (by decide +kernel) (by decide +kernel) (fun h1 h2 h3 h4 h5=>memStrs h1 h2 h3 h4 h5)
   exact free_some sc (by kernel_rfl!)
end Mine
end
section
namespace Mine
noncomputable abbrev jkB (jk : List Str) (k : Str) : Bool:=decide (k ∈ jk)
noncomputable abbrev matS (X : Fm) (tp : PV) (tx pa : Str) (jk : List Str) (on : Bool) : PV := .obj (InstAt X.prog X.w ((amL (kdStr X.prog X.w) tp (.str tx) (.str pa) on (sgns pa) (jkB jk)).lookup ·))
theorem blockKind_W {env : Env} (e : EnvOk env) : env.blockKind = .function:=by unfold Env.blockKind; rw [e.kind]; rfl
theorem sw_compW {env : Env} {elt : PySem.Expr} {gens : List Comprehension} {scope : Scope} {pos py : Pos} {y : Str} {line : Nat} (e : EnvOk env) (hy : env.kindOf y = some .local) (hl : (py.line == pos.line) = true) (hn : (scope.names.any fun x=>x.1 == y && (x.2 == .local || x.2 == .cell)) = false) : swapsWith (.ListComp elt gens scope pos) (some (.Name y py)) line env = pure true:=by
 show (pure (env.blockKind == .function && env.kindOf y == some .local && py.line == pos.line && !(scope.names.any fun x=>x.1 == y && (x.2 == .local || x.2 == .cell))) : Sem Bool) = pure true
 rw [blockKind_W e,hy,hl,hn]
 rfl
noncomputable def ofB (jk : List Str) (pa : Str) (on : Bool) (s : Str) : Bool := !decide (s ∈ jk) && popS s pa on
noncomputable def often3 (jk : List Str) (pa : Str) (on : Bool) : List Str:=((List.range abcS.cps.size).filter fun i=>ofB jk pa on (sgn abcS i)).map (sgn abcS)
theorem often_len (jk : List Str) (pa : Str) (on : Bool) : (often3 jk pa on).length ≤ 5:=by
 unfold often3
 rw [List.length_map,← abcS_len]
 exact Nat.le_trans (List.length_filter_le _ _) (by walk_at "ms")
theorem law_c {tx pa : Str} {jk : List Str} {on : Bool} {tp : PV} (ht : tx.cps.size < 1000) (hp : pa.length < 1000) {X : Fm} (ok : FmOk X) (sc : Sc X fdOf_law.scope (cellNames fdOf_law.scope.names [])) (cnew : ∀ x c,X.env.cells.lookup x = some c → X.h₀.get? c = none) (hK : X.K = frag X.w.params) (hrd : 50 ≤ X.rd) (hs : Safe tp) (tt : ∀ Γ : Ctx,Γ.lookup (ofString "junk") = some (.fz (lS jk)) → TestP X Γ (kdStr X.prog X.w) tp (jkB jk)) {Q : Out → Prop}
  (r : Ex X [((ofString "often"),.fz (lS (often3 jk pa on))),((ofString "m"),.fz (matS X tp tx pa jk on)),((ofString "on"),.fz (.bool on)),((ofString "test"),.fz tp),((ofString "junk"),.fz (lS jk)),((ofString "pattern"),.fz (.str pa)),((ofString "text"),.fz (.str tx))] ((bodyN (stN pwBody 9)).drop 7) Q) :
  Ex X [((ofString "on"),.fz (.bool on)),((ofString "test"),.fz tp),((ofString "junk"),.fz (lS jk)),((ofString "pattern"),.fz (.str pa)),((ofString "text"),.fz (.str tx))] ((bodyN (stN pwBody 9)).drop 5) Q:=by
 have hp' : pa.cps.size < 1000:=hp
 have fin : Ex X [((ofString "m"),.fz (matS X tp tx pa jk on)),((ofString "on"),.fz (.bool on)),((ofString "test"),.fz tp),((ofString "junk"),.fz (lS jk)),((ofString "pattern"),.fz (.str pa)),((ofString "text"),.fz (.str tx))] ((bodyN (stN pwBody 9)).drop 6) Q:=by
  refine ex_assignCompL (lo:=1) ok sc [((ofString "junk"),.fz (lS jk)),((ofString "on"),.fz (.bool on)),((ofString "pattern"),.fz (.str pa))] (n:=abcS.cps.size) (P:=fun i => .str (sgn abcS i)) (fun i=>ofB jk pa on (sgn abcS i)) (fun i => .str (sgn abcS i)) (by kernel_rfl!) (by kernel_rfl!) (cctx_cons (b := .fz (lS jk)) (by walk_at "lk") (by kernel_rfl!) rfl (cctx_cons (b := .fz (.bool on)) (by walk_at "lk") (by kernel_rfl!) rfl (cctx_cons (b := .fz (.str pa)) (by walk_at "lk") (by kernel_rfl!) rfl cctx_nil))) (It.toC (It.text ok E.cStr)) (by rw [abcS_len]; decide) (fun X' ok' sc' top i hi=>⟨[((ofString "sign"),.fz (.str (sgn abcS i))),((ofString "junk"),.fz (lS jk)),((ofString "on"),.fz (.bool on)),((ofString "pattern"),.fz (.str pa))], ?_, ?_,AsL.name ok' ((sc'.kind _).trans (by kernel_rfl!)),TB.one ?_,fun zz=>by walk_at "en"⟩) (fun i zz zz=>trivial) ((sc.kind _).trans (by kernel_rfl!)) (sw_compW ok.e ((sc.kind _).trans (by kernel_rfl!)) rfl (by kernel_rfl!)) fun ao hao => ?_
  ·intro z b e
   simp only [List.lookup_cons] at e
   repeat' split at e
   all_goals first | (cases e; rfl) | simp at e
  ·walk_at "sb"
  ·have hK' : X'.K = frag X'.w.params:=by rw [top.K,top.w,hK]
   have hrd' : 50 ≤ X'.rd:=by rw [top.rd]; exact hrd
   refine B.eq (x := !decide (sgn abcS i ∈ jk) && (popS (sgn abcS i) pa on && true)) (by rw [Bool.and_true]; rfl) (B.all (B.and (B.compare (by walk_at "en") (by walk_at "en") (Cmp.notInLS ok' (.list (jk.map .str)))) fun zz=>B.and (B.plain (E.callF ok' (rd:=0) (ps:=[.str (sgn abcS i),.str pa,.bool on]) (r := .bool (popS (sgn abcS i) pa on)) (by walk_at "gl") (.cons (by walk_at "en") (.cons (by walk_at "en") (.cons (by walk_at "en") .nil))) ⟨trivial,trivial,trivial,trivial⟩ (by rw [hK']; kernel_rfl!) (by omega) (hK' ▸ law_popular hp) rfl)) fun zz=>B.and0))
  refine Ex.freeze ok hao (x:=(ofString "often")) (a:=ao) (by walk_at "lk") ?_
  have e1 : PV.list (((List.range abcS.cps.size).filter fun i=>ofB jk pa on (sgn abcS i)).map fun i=>PV.str (sgn abcS i)) = lS (often3 jk pa on):=by
   unfold often3 lS
   rw [List.map_map]
   rfl
  rw [e1]
  refine Ex.weak ?_ r
  walk_at "sb"
 refine Ex.ite (B.plain (by walk_at "en")) (fun hon => ?_) (fun hon => ?_)
 ·refine Ex.assign ok (E.makeJ ok hK (kdStr X.prog X.w) (jk:=jkB jk) (tp:=tp) (ap := .str tx) (bp := .str pa) (ks:=sgns pa) (ls:=sgns tx) (aj:=on) (by walk_at "gl") (.cons (by walk_at "en") (.cons (by walk_at "en") (.cons (by walk_at "en") .nil))) (.inl ⟨rfl,hon⟩) rfl hs (tt _ (by walk_at "lk")) (SeqP.text (by omega)) (SeqP.text (by omega)) (by rw [sgns_len]; omega) hrd) trivial (by walk_at "ld") (Ex.nil (Ex.done (Ex.weak ?_ fin)))
  walk_at "sb"
 ·refine Ex.assign ok (E.makeJ ok hK (kdStr X.prog X.w) (jk:=jkB jk) (tp:=tp) (ap := .str tx) (bp := .str pa) (ks:=sgns pa) (ls:=sgns tx) (aj:=on) (by walk_at "gl") (.cons (by walk_at "en") (.cons (by walk_at "en") (.cons (by walk_at "en") (.cons (E.eq (by rw [hon]) E.cBool) .nil)))) (.inr rfl) rfl hs (tt _ (by walk_at "lk")) (SeqP.text (by omega)) (SeqP.text (by omega)) (by rw [sgns_len]; omega) hrd) trivial (by walk_at "ld") (Ex.nil (Ex.done (Ex.weak ?_ fin)))
  walk_at "sb"
end Mine
end
section
namespace Mine
section
variable {X : Fm} {kd : Kd X.prog X.w Str} {tp ap bp : PV} {aj : Bool} {ks : List Str} {jk : Str → Bool}
theorem am_a : (amL kd tp ap bp aj ks jk).lookup (ofString "a") = some ap:=by kernel_rfl!
theorem am_b : (amL kd tp ap bp aj ks jk).lookup (ofString "b") = some bp:=by kernel_rfl!
theorem am_isjunk : (amL kd tp ap bp aj ks jk).lookup (ofString "isjunk") = some tp:=by kernel_rfl!
theorem am_autojunk : (amL kd tp ap bp aj ks jk).lookup (ofString "autojunk") = some (.bool aj):=by kernel_rfl!
theorem am_blocks : (amL kd tp ap bp aj ks jk).lookup (ofString "matching_blocks") = some .none:=by kernel_rfl!
theorem am_opcodes : (amL kd tp ap bp aj ks jk).lookup (ofString "opcodes") = some .none:=by kernel_rfl!
theorem am_full : (amL kd tp ap bp aj ks jk).lookup (ofString "fullbcount") = some .none:=by kernel_rfl!
theorem am_b2j : (amL kd tp ap bp aj ks jk).lookup (ofString "b2j") = some (.obj (KDic kd.knd ks.length fun k=>if k ∈ ks ∧ (!jk k && !popF ks aj k) = true then some (.list ((placesK ks k 0).map .int)) else none)):=by kernel_rfl!
theorem am_bjunk : (amL kd tp ap bp aj ks jk).lookup (ofString "bjunk") = some (.obj (KSet kd.knd ((uniq ks).filter jk))):=by kernel_rfl!
theorem am_bpop : (amL kd tp ap bp aj ks jk).lookup (ofString "bpopular") = some (.obj (KSet kd.knd ((uniq ks).filter fun k => !jk k && popF ks aj k))):=by kernel_rfl!
end
theorem get_strW {ss : List Str} {i : Nat} (hi : i < ss.length) : (ss.map PV.str)[i]? = some (.str (ss.getD i qS)):=by
 rw [List.getElem?_map,List.getElem?_eq_getElem hi]; simp [hi]
theorem map_getS (ss : List Str) : (List.range ss.length).map (fun i=>ss.getD i qS) = ss:=by
 apply List.ext_getElem?
 intro i
 by_cases hi : i < ss.length
 ·simp [hi]
 ·simp [hi]
theorem filt_getS (ss : List Str) (p : Str → Bool) : ((List.range ss.length).filter fun i=>p (ss.getD i qS)).map (fun i=>ss.getD i qS) = ss.filter p:=by
 have e : ss.filter p = ((List.range ss.length).map (fun i=>ss.getD i qS)).filter p:=by rw [map_getS]
 rw [e,List.filter_map]
 rfl
noncomputable def inP (x y : Str) : Bool := !(Builtin.Str.occurrences x y 0 x.length 1).isEmpty
noncomputable abbrev Γ3 (X : Fm) (tp : PV) (tx pa : Str) (jk : List Str) (on : Bool) : Ctx:=[((ofString "often"),.fz (lS (often3 jk pa on))),((ofString "m"),.fz (matS X tp tx pa jk on)),((ofString "on"),.fz (.bool on)),((ofString "test"),.fz tp),((ofString "junk"),.fz (lS jk)),((ofString "pattern"),.fz (.str pa)),((ofString "text"),.fz (.str tx))]
theorem law_d1 {tx pa : Str} {jk : List Str} {on : Bool} {tp : PV} {X : Fm} (ht : Cmp X .IsNot tp tp false) (ok : FmOk X) (sc : Sc X fdOf_law.scope (cellNames fdOf_law.scope.names [])) (hK : X.K = frag X.w.params) {Q : Out → Prop}
  (r : Ex X (Γ3 X tp tx pa jk on) ((bodyN (stN pwBody 9)).drop 8) Q) :
  Ex X (Γ3 X tp tx pa jk on) ((bodyN (stN pwBody 9)).drop 7) Q:=by
 show Ex X [((ofString "often"),.fz (lS (often3 jk pa on))),((ofString "m"),.fz (matS X tp tx pa jk on)),((ofString "on"),.fz (.bool on)),((ofString "test"),.fz tp),((ofString "junk"),.fz (lS jk)),((ofString "pattern"),.fz (.str pa)),((ofString "text"),.fz (.str tx))] _ _
 refine Ex.ite (c:=false) (B.eq (x:=(tx != tx) || ((pa != pa) || (false || ((on != on) || false)))) (by walk_at "ms") (B.all (B.or (B.compare (E.attr ok hK (by walk_at "en") am_a (by decide +kernel)) (by walk_at "en") Cmp.neS) fun zz=>B.or (B.compare (E.attr ok hK (by walk_at "en") am_b (by decide +kernel)) (by walk_at "en") Cmp.neS) fun zz=>B.or (B.compare (E.attr ok hK (by walk_at "en") am_isjunk (by decide +kernel)) (by walk_at "en") ht) fun zz=>B.or (B.compare (E.attr ok hK (by walk_at "en") am_autojunk (by decide +kernel)) (by walk_at "en") Cmp.isNotBool) fun zz=>B.or0))) (fun h=>by cases h) fun zz=>Ex.nil (Ex.done r)
theorem law_d2 {tx pa : Str} {jk : List Str} {on : Bool} {tp : PV} (hj : jk.length ≤ 2) (hin : ∀ k ∈ jk,inP pa k = decide (k ∈ sgns pa)) (hq : ∀ k,(k ∈ sgns pa ∧ k ∉ jk ∧ popF (sgns pa) on k = true) ↔ k ∈ often3 jk pa on) {X : Fm} (ok : FmOk X) (sc : Sc X fdOf_law.scope (cellNames fdOf_law.scope.names [])) (hK : X.K = frag X.w.params) {Q : Out → Prop}
  (r : Ex X (Γ3 X tp tx pa jk on) ((bodyN (stN pwBody 9)).drop 9) Q) :
  Ex X (Γ3 X tp tx pa jk on) ((bodyN (stN pwBody 9)).drop 8) Q:=by
 show Ex X [((ofString "often"),.fz (lS (often3 jk pa on))),((ofString "m"),.fz (matS X tp tx pa jk on)),((ofString "on"),.fz (.bool on)),((ofString "test"),.fz tp),((ofString "junk"),.fz (lS jk)),((ofString "pattern"),.fz (.str pa)),((ofString "text"),.fz (.str tx))] _ _
 have hol:=often_len jk pa on
 have hlen:=List.length_filter_le (fun y=>inP pa y) jk
 refine Ex.ite (c:=false) (B.eq (x := !true || (!true || false)) rfl (B.all (B.or (B.compare (E.attr ok hK (by walk_at "en") am_bjunk (by decide +kernel)) (E.setOfK ok (kdStr X.prog X.w) (ks:=jk.filter fun y=>inP pa y) (by walk_at "bn") (E.ofN (N.eq ?e (N.comp ok sc [((ofString "pattern"),.fz (.str pa))] (n:=jk.length) (P:=fun i => .str (jk.getD i qS)) (fun i=>inP pa (jk.getD i qS)) (fun i => .str (jk.getD i qS)) (by kernel_rfl!) (by kernel_rfl!) (cctx_cons (b := .fz (.str pa)) (by walk_at "lk") (by kernel_rfl!) rfl cctx_nil) (It.toC (It.num (n:=(jk.map PV.str).length) (by walk_at "ms") (It.listN ok (xs:=jk.map .str) (by walk_at "en") (Safes.strs jk) (fun i hi=>get_strW (by simpa using hi))))) (by omega) (fun X' ok' sc' top i hi=>⟨[((ofString "sign"),.fz (.str (jk.getD i qS))),((ofString "pattern"),.fz (.str pa))], ?a, ?b,AsL.name ok' ((sc'.kind _).trans (by kernel_rfl!)),TB.one (B.compare (by walk_at "en") (by walk_at "en") Cmp.inS),fun zz=>by walk_at "en"⟩) (fun i zz zz=>trivial)))) (.list _) (by omega) rfl) (Cmp.neSet ok (c:=true) ?c)) fun zz=>B.or (B.compare (E.attr ok hK (by walk_at "en") am_bpop (by decide +kernel)) (E.setOfK ok (kdStr X.prog X.w) (p:=lS (often3 jk pa on)) (ks:=often3 jk pa on) (by walk_at "bn") (by walk_at "en") (.list _) (by omega) rfl) (Cmp.neSet ok (c:=true) ?d)) fun zz=>B.or0))) (fun h=>by cases h) fun zz=>Ex.nil (Ex.done r)
 case a =>
  intro z b e
  simp only [List.lookup_cons] at e
  repeat' split at e
  all_goals first | (cases e; rfl) | simp at e
 case b=>walk_at "sb"
 case e =>
  rw [← filt_getS jk fun y=>inP pa y,List.map_map]
  rfl
 case c =>
  refine ⟨fun zz k => ?_,fun zz=>rfl⟩
  rw [List.mem_filter,mem_uniq,mem_uniq,List.mem_filter,decide_eq_true_eq]
  constructor
  ·exact fun z=>⟨z.2,(hin k z.2).trans (decide_eq_true z.1)⟩
  ·exact fun z=>⟨of_decide_eq_true ((hin k z.1).symm.trans z.2),z.1⟩
 case d =>
  refine ⟨fun zz k => ?_,fun zz=>rfl⟩
  rw [List.mem_filter,mem_uniq,mem_uniq,← hq k,Bool.and_eq_true,Bool.not_eq_true',decide_eq_false_iff_not]
theorem law_d3 {tx pa : Str} {jk : List Str} {on : Bool} {tp : PV} {X : Fm} (ok : FmOk X) (sc : Sc X fdOf_law.scope (cellNames fdOf_law.scope.names [])) (cnew : ∀ x c,X.env.cells.lookup x = some c → X.h₀.get? c = none) (hK : X.K = frag X.w.params) {Q : Out → Prop}
  (r : Ex X (((ofString "told"),.fz (.list [])) :: Γ3 X tp tx pa jk on) ((bodyN (stN pwBody 9)).drop 10) Q) :
  Ex X (Γ3 X tp tx pa jk on) ((bodyN (stN pwBody 9)).drop 9) Q:=by
 show Ex X [((ofString "often"),.fz (lS (often3 jk pa on))),((ofString "m"),.fz (matS X tp tx pa jk on)),((ofString "on"),.fz (.bool on)),((ofString "test"),.fz tp),((ofString "junk"),.fz (lS jk)),((ofString "pattern"),.fz (.str pa)),((ofString "text"),.fz (.str tx))] _ _
 refine ex_assignCompL (lo:=1) ok sc [] (n:=3) (P:=fun i => .none) (fun i=>false) (fun i => .none) (by kernel_rfl!) (by kernel_rfl!) cctx_nil (It.toC (It.listN ok (xs:=[.none,.none,.none]) (E.ofN (N.disp ok (.cons (E.attr ok hK (by walk_at "en") am_opcodes (by decide +kernel)) (.cons (E.attr ok hK (by walk_at "en") am_blocks (by decide +kernel)) (.cons (E.attr ok hK (by walk_at "en") am_full (by decide +kernel)) .nil))) rfl (by walk_at "ms"))) ⟨trivial,trivial,trivial,trivial⟩ (fun i hi => ?g))) (by omega) (fun X' ok' sc' top i hi=>⟨[((ofString "one"),.fz .none)], ?a, ?b,AsL.name ok' ((sc'.kind _).trans (by kernel_rfl!)),TB.one (B.compare (by walk_at "en") E.cNone Cmp.isNotNone),fun zz=>by walk_at "en"⟩) (fun i zz zz=>trivial) ((sc.kind _).trans (by kernel_rfl!)) (sw_compW ok.e ((sc.kind _).trans (by kernel_rfl!)) rfl (by kernel_rfl!)) fun ao hao => ?_
 case a =>
  intro z b e
  simp only [List.lookup_cons] at e
  repeat' split at e
  all_goals first | (cases e; rfl) | simp at e
 case b=>walk_at "sb"
 case g =>
  have hi : i < 3:=hi
  rcases (by omega : i = 0 ∨ i = 1 ∨ i = 2) with rfl | rfl | rfl <;> rfl
 refine Ex.freeze ok hao (x:=(ofString "told")) (a:=ao) (by walk_at "lk") ?_
 rw [show PV.list (((List.range 3).filter fun zz=>false).map fun zz=>PV.none) = PV.list [] from rfl]
 refine Ex.weak ?_ r
 show ∀ x b,List.lookup x [((ofString "told"),Bind.fz (.list [])),((ofString "often"),.fz (lS (often3 jk pa on))),((ofString "m"),.fz (matS X tp tx pa jk on)),((ofString "on"),.fz (.bool on)),((ofString "test"),.fz tp),((ofString "junk"),.fz (lS jk)),((ofString "pattern"),.fz (.str pa)),((ofString "text"),.fz (.str tx))] = some b → _
 walk_at "sb"
end Mine
end
section
namespace Mine
section
variable {prog : Program} {w : World} {A : Around} {K : Type} [DecidableEq K] {knd : KeyKind prog w K}
theorem Iter.keys {I d : Addr} {o : Obj} {hb : Heap} {kvs : List (K × Value)} {ep : Nat} {x : Str} {px : Pos} (hh : A.handled = none) (P : DicParts knd o kvs ep) (hd : hb.get? d = some o) : Iter prog w A I hb kvs.length (fun i v => ∃ k y,kvs[i]? = some (k,y) ∧ knd.is k v = true) (kitS d kvs.length ep) (.Name x px) where
 item:=fun i h oI hi sb g st=>by
  have hx : kvs[i]? = some (kvs[i].1,kvs[i].2):=by simp [hi]
  exact t_nextKey g st (P.at' h d (sb _ _ (fun z=>by cases z) hd)) hx fun key h' o' hk sb' g' st'=>⟨key,o',rfl,⟨_,_,hx,hk⟩,sb',g',st'⟩
 done:=fun h oI sb g st=>t_nextKeyEnd hh g st (P.at' h d (sb _ _ (fun z=>by cases z) hd)) fun h' sb'=>⟨rfl,sb'⟩
 go:=fun zz zz zz zz zz zz zz=>T.eq rfl (T.pure rfl)
 self:=fun h oI sb g st s es=>by
  subst es
  exact wpAny_pyIter_keyiter ⟨oI,g,st.1,st.2⟩ ⟨s.heap,s.toks,rfl,rfl⟩
theorem noval_kit {d : Addr} {n ep i : Nat} {o : Obj} (y : kitS d n ep i o) : NoVal o:=⟨⟨_,by decide +kernel,y.1⟩,fun v hv=>by rw [y.2] at hv; (cases hv),fun vs s t' hv z=>by rw [y.2] at hv; cases hv; cases z⟩
noncomputable def KDicO (knd : KeyKind prog w K) (ks : List K) (f : K → Option PV) : Store → Addr → Obj → Prop:=fun F a o=>(a == sysModules) = false ∧ ∃ kvs,IsDicK knd o kvs ∧ kvs.map (·.1) = ks ∧ ∀ k,DVal prog w F (valueAt kvs k) (f k)
theorem KDicO.dic {ks : List K} {f : K → Option PV} {F : Store} {a : Addr} {o : Obj} (x : KDicO knd ks f F a o) : KDic knd ks.length f F a o :=
 let ⟨h1,kvs,h2,h3,h4⟩:=x
 ⟨h1,kvs,h2,by rw [← h3,List.length_map]; exact Nat.le_refl _,h4⟩
theorem KDicO.up {ks : List K} {f : K → Option PV} {F F' : Store} {a : Addr} {o : Obj} (hF : ∀ a o,F a o → ¬ NoVal o → F' a o) (x : KDicO knd ks f F a o) : KDicO knd ks f F' a o :=
 let ⟨h1,kvs,h2,h3,h4⟩:=x
 ⟨h1,kvs,h2,h3,fun k=>(h4 k).up hF⟩
end
section
variable {X : Fm} {Γ Γ' : Ctx} {F : Store} {m : Str → Option Value} {l : List (Addr × Obj)} {h h' : Heap} {Q : Out → Prop} {rest : List Stmt} {K : Type} [DecidableEq K]
theorem E.dicO {knd : KeyKind X.prog X.w K} {e : PySem.Expr} {ks : List K} {f : K → Option PV} (ee : E X Γ e (.obj (KDicO knd ks f))) : E X Γ e (.obj (KDic knd ks.length f)):=fun F m l h H =>
 (ee F m l h H).mono fun v h₁ ⟨F₁,le₁,H₁,r₁⟩=>by
  obtain ⟨a,o,rfl,fa,p,nv⟩:=r₁.o
  exact ⟨F₁,le₁,H₁,.obj fa p.dic nv fun F' le=>(p.up le).dic⟩
theorem It.keys (ok : FmOk X) (kd : Kd X.prog X.w K) (back : ∀ {F R : Store} {v : Value} {k : K},kd.knd.is k v = true → Rep X.prog X.w F R v (kd.pv k)) (k₀ : K) {iter : PySem.Expr} {x : Str} {px : Pos} {ks : List K} {f : K → Option PV} (ee : E X Γ iter (.obj (KDicO kd.knd ks f))) : It X Γ iter (.Name x px) ks.length fun i=>kd.pv (ks.getD i k₀):=fun F m l h H=>E.go ee H fun F' v h₁ le H₁ r=>by
 obtain ⟨d,o,rfl,fd,⟨lo,kvs,hd,hk,_⟩,_⟩:=r.o
 obtain ⟨ep,P⟩:=hd.parts
 have len : kvs.length = ks.length:=by rw [← hk,List.length_map]
 refine ⟨F',le,H₁,TP.of fun s es => ?_⟩
 subst es
 refine wpAny_pyIter_dict lo (P.at' _ d (H₁.fz _ _ fd).1) ⟨_,s.toks,s.heap.objs.size,_,kitS d kvs.length ep,(fun i v => ∃ k y,kvs[i]? = some (k,y) ∧ kd.knd.is k v = true),rfl,Sub.push _ _,get_size_none _,get_push_self _ _,⟨rfl,rfl⟩,fun i o h=>noval_kit h,fun h st => ?_,fun i v hi hv => ?_⟩
 ·rw [← len]
  exact Iter.keys ok.hh P (st _ _ fd)
 ·obtain ⟨k,y,hx,hv⟩:=hv
  have e : ks.getD i k₀ = k:=by
   rw [← hk,List.getD_eq_getElem?_getD,List.getElem?_map,hx]; rfl
  rw [e]
  exact back hv
noncomputable def amO {prog : Program} {w : World} (knd : KeyKind prog w K) (ks : List K) (f : K → Option PV) (x : Str) : Option PV:=if x = (ofString "b2j") then some (.obj (KDicO knd ks f)) else none
theorem Ex.keysO (ok : FmOk X) {x : Str} {knd : KeyKind X.prog X.w K} {am : Str → Option PV} {n : Nat} {f : K → Option PV} (hx : Γ.lookup x = some (.fz (.obj (InstAt X.prog X.w am)))) (ha : am (ofString "b2j") = some (.obj (KDic knd n f)))
  (r : ∀ ks : List K,ks.Nodup → (∀ k,k ∈ ks ↔ (f k).isSome = true) → Ex X ((x,.fz (.obj (InstAt X.prog X.w (amO knd ks f)))) :: Γ) rest Q) : Ex X Γ rest Q:=fun F m l h H=>by
 obtain ⟨v,lk,bo⟩:=H.nm x _ hx
 obtain ⟨a,o,rfl,fa,⟨d,od,amv,e0,e1,e2,e3⟩,nv⟩:=Rep.o bo
 obtain ⟨u,q1,q2,q3⟩:=e3 _ _ ha
 obtain ⟨b,ob,rfl,fb,⟨lo,kvs,hd,hk,hv⟩,nvb⟩:=q3.o
 have nd : (kvs.map (·.1)).Nodup:=hd.nodup
 have new : ∀ F' : Store,(∀ a o,F a o → ¬ NoVal o → F' a o) → KDicO knd (kvs.map (·.1)) f F' b ob:=fun F' le=>⟨lo,kvs,hd,rfl,fun k=>(hv k).up le⟩
 have nvd : ¬ NoVal od:=by
  obtain ⟨es',n',rfl⟩:=attrs_dictW e2
  exact fun z=>z.ne (c := "dict") rfl (by decide +kernel)
 have inst : ∀ F' : Store,(∀ a o,F a o → ¬ NoVal o → F' a o) → InstAt X.prog X.w (amO knd (kvs.map (·.1)) f) F' a o:=fun F' le=>⟨d,od,amv,e0,le _ _ e1 nvd,e2,fun y p e=>by
  unfold amO at e
  by_cases z : y = (ofString "b2j")
  ·rw [if_pos z] at e
   cases e
   exact ⟨.ref b,z ▸ q1,q2,.obj (le _ _ fb nvb) (new F' le) nvb fun F'' le'=>new F'' fun a o h1 h2=>le' a o (le a o h1 h2) h2⟩
  ·rw [if_neg z] at e; cases e⟩
 refine r (kvs.map (·.1)) nd (fun k => ?_) F m l h (H.rebindL hx (fun zz q=>q) fun u lu bu => ?_)
 ·rw [← (hv k).isSome,valueAt_some]
 ·obtain rfl:=Look.fn ok H lu lk
  exact .obj fa (inst F fun zz zz e zz=>e) nv inst
end
end Mine
end
section
namespace Mine
theorem sorted_up {ns : List Int} (hz : ns.Pairwise (· < ·)) {p : List Nat} (pp : p.Perm (List.range (ns.map PV.int).length)) (ps : 2 ≤ (ns.map PV.int).length → Sor (fun i j=>decide (ns.getD i 0 < ns.getD j 0)) p) : p.map (fun i=>(ns.map PV.int).getD i .none) = ns.map .int:=by
 rw [List.length_map] at pp ps
 have hmem : ∀ i ∈ p,i < ns.length:=fun i hi=>by simpa using pp.mem_iff.mp hi
 have e1 : p.map (fun i=>(ns.map PV.int).getD i .none) = (p.map fun i=>ns.getD i 0).map .int:=by
  rw [List.map_map]
  refine List.map_congr_left fun i hi => ?_
  have:=hmem i hi
  simp [this]
 rw [e1]
 congr 1
 have e2 : (p.map fun i=>ns.getD i 0).Perm ns:=by
  have : (List.range ns.length).map (fun i=>ns.getD i 0) = ns:=List.ext_getElem (by walk_at "ms") fun k h1 h2=>by simp [h2]
  exact (pp.map _).trans (.of_eq this)
 have srt : (p.map fun i=>ns.getD i 0).Pairwise fun x y=>x ≤ y:=by
  rw [List.pairwise_map]
  by_cases h2 : 2 ≤ ns.length
  ·exact (ps h2).imp fun {a b} h=>Int.not_lt.mp (of_decide_eq_false h)
  ·have : p.length ≤ 1:=by rw [pp.length_eq,List.length_range]; omega
   match p,this with
   | [],_=>exact .nil
   | [_],_=>exact List.pairwise_singleton _ _
 exact List.Perm.eq_of_pairwise (le:=fun x y=>x ≤ y) (fun a b zz zz h1 h2=>Int.le_antisymm h1 h2) srt (hz.imp fun {a b} h=>Int.le_of_lt h) e2
section
variable {X : Fm} {Γ : Ctx}
theorem N.sortedUp (ok : FmOk X) {f : Str} {pf pos : Pos} {e : PySem.Expr} {p : PV} {ns : List Int} (ef : E X Γ (.Name f pf) (.raw (.builtin "sorted"))) (ee : E X Γ e p) (il : IsL p (ns.map .int)) (hz : ns.length ≤ 100000) (up : ns.Pairwise (· < ·)) (hst : noStars [e] = true) : N X Γ (.Call (.Name f pf) [e] [] pos) (.list (ns.map .int)) :=
 N.sorted ok ef ee il (by rw [List.length_map]; exact hz) (fun std hn r h2=>KeysOk.ints r.toInts h2) (fun p pp ps=>sorted_up up pp ps) hst
theorem Cmp.eqNil (ok : FmOk X) {p : PV} {xs : List PV} (il : IsL p xs) (hn : xs.length ≠ 0) : Cmp X .Eq p (.list []) false:=fun Γ F m l h u v H ru rv=>by
 obtain ⟨a,vs,rfl,hl,rs⟩:=H.lst ok il ru
 obtain ⟨b,us,rfl,hl',rs'⟩:=H.lst ok (.list []) rv
 cases rs'
 have len:=rs.length
 have hu:=ok.units
 refine TP.of fun s es => ?_
 subst es
 refine PySem.SeqAt.RcAt.lists_lengths (A:=X.A) (s:=s) hl hl' (by simp only [List.size_toArray,List.length_nil,bne_iff_ne,ne_eq]; omega) (by omega) _ _ _ _ ⟨s.heap,s.toks,F,fun zz zz e=>e,H, ?_⟩
 exact .bool _
end
end Mine
end
section
namespace Mine
theorem placesK_eq {K : Type} [DecidableEq K] (k d : K) : ∀ (ns : List K) (i : Nat),placesK ns k i = ((List.range ns.length).filter fun j=>decide (ns.getD j d = k)).map fun j=>((i + j : Nat) : Int)
 | [],_=>rfl
 | n :: r,i=>by
  have ih:=placesK_eq k d r (i + 1)
  have e : (List.map Nat.succ (List.range r.length)).filter (fun j=>decide ((n :: r).getD j d = k)) = ((List.range r.length).filter fun j=>decide (r.getD j d = k)).map Nat.succ:=by
   rw [List.filter_map]; rfl
  have e2 : ((List.range r.length).filter fun j=>decide (r.getD j d = k)).map (fun j=>((i + 1 + j : Nat) : Int)) = (((List.range r.length).filter fun j=>decide (r.getD j d = k)).map Nat.succ).map fun j=>((i + j : Nat) : Int):=by
   rw [List.map_map]
   refine List.map_congr_left fun j zz => ?_
   show ((i + 1 + j : Nat) : Int) = ((i + (j + 1) : Nat) : Int)
   congr 1; omega
  show (if n = k then (i : Int) :: placesK r k (i + 1) else placesK r k (i + 1)) = _
  rw [ih,e2,List.length_cons,List.range_succ_eq_map,List.filter_cons,← e]
  by_cases c : n = k
  ·rw [if_pos c,if_pos (by simpa using c)]; rfl
  ·rw [if_neg c,if_neg (by simpa using c)]
theorem sgns_getD {p : Str} {j : Nat} (h : j < p.cps.size) (d : Str) : (sgns p).getD j d = sgn p j:=by
 rw [List.getD_eq_getElem?_getD,sgns_get h]; rfl
noncomputable def plS (k p : Str) : List Int:=(atS k p).map fun (i : Nat)=>(i : Int)
theorem places_sgns (k p : Str) : placesK (sgns p) k 0 = plS k p:=by
 rw [placesK_eq k qS,sgns_len,plS,atS]
 have : (List.range p.cps.size).filter (fun j=>decide ((sgns p).getD j qS = k)) = (List.range p.cps.size).filter fun i=>sgn p i == k:=List.filter_congr fun j hj=>by
  rw [sgns_getD (List.mem_range.mp hj)]
  by_cases c : sgn p j = k
  ·rw [decide_eq_true c,beq_iff_eq.mpr c]
  ·rw [decide_eq_false c,beq_eq_false_iff_ne.mpr c]
 rw [this]
 exact List.map_congr_left fun j zz=>by rw [Nat.zero_add]
theorem plS_up (k p : Str) : (plS k p).Pairwise (· < ·):=by
 rw [plS,List.pairwise_map]
 exact ((List.pairwise_lt_range).sublist List.filter_sublist).imp fun {a b} h=>Int.ofNat_lt.mpr h
theorem plS_len (k p : Str) : (plS k p).length ≤ p.length:=by rw [plS,List.length_map]; exact atS_len k p
theorem plS_ne {k p : Str} (h : k ∈ sgns p) : (plS k p).length ≠ 0:=by
 obtain ⟨i,hi,rfl⟩:=List.mem_map.mp h
 rw [plS,List.length_map]
 refine Nat.ne_of_gt (List.length_pos_of_mem (a:=i) (List.mem_filter.mpr ⟨hi,by simp⟩))
noncomputable def keptS (jk : List Str) (pa : Str) (on : Bool) (k : Str) : Bool:=decide (k ∈ sgns pa) && (!jkB jk k && !popF (sgns pa) on k)
noncomputable def f3 (jk : List Str) (pa : Str) (on : Bool) (k : Str) : Option PV:=if k ∈ sgns pa ∧ (!jkB jk k && !popF (sgns pa) on k) = true then some (.list ((placesK (sgns pa) k 0).map .int)) else none
theorem f3_some {jk : List Str} {pa : Str} {on : Bool} {k : Str} : (f3 jk pa on k).isSome = keptS jk pa on k:=by
 unfold f3 keptS
 by_cases c : k ∈ sgns pa ∧ (!jkB jk k && !popF (sgns pa) on k) = true
 ·rw [if_pos c,decide_eq_true c.1,c.2]; rfl
 ·rw [if_neg c]
  symm
  rw [Option.isSome_none,Bool.and_eq_false_iff]
  by_cases d : k ∈ sgns pa
  ·exact .inr (by simpa [d] using c)
  ·exact .inl (decide_eq_false d)
theorem f3_get {jk : List Str} {pa : Str} {on : Bool} {k : Str} (h : keptS jk pa on k = true) : f3 jk pa on k = some (lW (plS k pa)):=by
 unfold keptS at h
 rw [Bool.and_eq_true,decide_eq_true_eq] at h
 rw [f3,if_pos h,places_sgns]
noncomputable abbrev matO (X : Fm) (ks : List Str) (jk : List Str) (pa : Str) (on : Bool) : PV := .obj (InstAt X.prog X.w (amO (kdStr X.prog X.w).knd ks (f3 jk pa on)))
theorem E.b2jW {X : Fm} {Γ : Ctx} {prog : Program} {w : World} (h1 : X.prog = prog) (h2 : X.w = w) (ok : FmOk X) (hK : X.K = frag X.w.params) {e : PySem.Expr} {pos : Pos} {ks : List Str} {f : Str → Option PV} (ee : E X Γ e (.obj (InstAt prog w (amO (kdStr prog w).knd ks f))))
  (he : eval (.Attribute e (ofString "b2j") pos) X.env = (do
   let ov ← eval e X.env
   PySem.standAt pos.atName
   let r ← PySem.holding [ov] (getAttr ov (ofString "b2j") true)
   letTemporaryGo e ov r
   Pure.pure r):=by with_unfolding_all rfl) : E X Γ (.Attribute e (ofString "b2j") pos) (.obj (KDicO (kdStr X.prog X.w).knd ks f)):=by
 subst h1 h2
 exact E.attr ok hK ee (if_pos rfl) (by decide +kernel) he
end Mine
end
section
namespace Mine
theorem backS {prog : Program} {w : World} {F R : Store} {v : Value} {k : Str} (h : (kdStr prog w).knd.is k v = true) : Rep prog w F R v ((kdStr prog w).pv k):=by
 obtain ⟨t,rfl⟩:=Value.isStrOf_shape h
 exact .str k t
theorem filt_false (n : Nat) : (List.range n).filter (fun zz=>false) = []:=List.filter_eq_nil_iff.mpr fun zz zz=>Bool.false_ne_true
theorem nodup_len {K : Type} [DecidableEq K] : ∀ {a b : List K},a.Nodup → (∀ x ∈ a,x ∈ b) → a.length ≤ b.length:=fun {a}=>by
 induction a with
 | nil=>intro b _ _; exact Nat.zero_le _
 | cons y a ih =>
  intro b nd hs
  rw [List.nodup_cons] at nd
  have hy:=hs y (.head _)
  have:=ih (b:=b.erase y) nd.2 fun x hx=>(List.mem_erase_of_ne (by rintro rfl; exact nd.1 hx)).mpr (hs x (.tail _ hx))
  rw [List.length_erase_of_mem hy] at this
  have : 0 < b.length:=List.length_pos_of_mem hy
  simp only [List.length_cons]; omega
theorem law_e {tx pa : Str} {jk : List Str} {on : Bool} {tp : PV} (hp : pa.length < 1000) {X : Fm} (ok : FmOk X) (sc : Sc X fdOf_law.scope (cellNames fdOf_law.scope.names [])) (cnew : ∀ x c,X.env.cells.lookup x = some c → X.h₀.get? c = none) (hK : X.K = frag X.w.params) {Q : Out → Prop}
  (r : ∀ ks : List Str,ks.Nodup → (∀ k,k ∈ ks ↔ keptS jk pa on k = true) → Ex X [((ofString "m"),.fz (matO X ks jk pa on)),((ofString "often"),.fz (lS (often3 jk pa on))),((ofString "junk"),.fz (lS jk)),((ofString "pattern"),.fz (.str pa)),((ofString "text"),.fz (.str tx))] ((bodyN (stN pwBody 9)).drop 11) Q) :
  Ex X (((ofString "told"),.fz (.list [])) :: Γ3 X tp tx pa jk on) ((bodyN (stN pwBody 9)).drop 10) Q:=by
 show Ex X [((ofString "told"),.fz (.list [])),((ofString "often"),.fz (lS (often3 jk pa on))),((ofString "m"),.fz (matS X tp tx pa jk on)),((ofString "on"),.fz (.bool on)),((ofString "test"),.fz tp),((ofString "junk"),.fz (lS jk)),((ofString "pattern"),.fz (.str pa)),((ofString "text"),.fz (.str tx))] _ _
 refine Ex.keysO ok (x:=(ofString "m")) (f:=f3 jk pa on) (by walk_at "lk") am_b2j fun ks nd hk => ?_
 have hk' : ∀ k,k ∈ ks ↔ keptS jk pa on k = true:=fun k=>by rw [hk k,f3_some]
 have len : ks.length ≤ 1000:=by
  have h1 : ks.length ≤ (sgns pa).length:=(nodup_len nd fun k h=>by
   have:=(hk' k).mp h
   unfold keptS at this
   rw [Bool.and_eq_true,decide_eq_true_eq] at this
   exact this.1)
  rw [sgns_len] at h1
  have : pa.cps.size < 1000:=hp
  omega
 refine Ex.weak (Γ':=[((ofString "m"),.fz (matO X ks jk pa on)),((ofString "told"),.fz (.list [])),((ofString "often"),.fz (lS (often3 jk pa on))),((ofString "junk"),.fz (lS jk)),((ofString "pattern"),.fz (.str pa)),((ofString "text"),.fz (.str tx))]) ?_ ?_
 ·show ∀ x b,_ → _
  walk_at "sb"
 have get : ∀ i,i < ks.length → keptS jk pa on (ks.getD i qS) = true:=fun i hi=>(hk' _).mp (by rw [List.getD_eq_getElem?_getD,List.getElem?_eq_getElem hi]; exact List.getElem_mem hi)
 have mem : ∀ k,keptS jk pa on k = true → k ∈ sgns pa:=fun k h=>by
  unfold keptS at h
  rw [Bool.and_eq_true,decide_eq_true_eq] at h
  exact h.1
 refine Ex.ite (c:=false) (B.eq (x:=decide (([] : List PV).length ≠ 0) || (decide (((((List.range ks.length).filter fun zz=>false).map fun i=>PV.str (ks.getD i qS))).length ≠ 0) || false)) (by rw [filt_false]; rfl) (B.all (B.or (B.compare (by walk_at "en") (E.ofN (N.disp ok .nil rfl (by walk_at "ms"))) (Cmp.neNil ok (.list []))) fun zz=>B.or (B.compare (E.ofN (N.comp ok sc [((ofString "m"),.fz (matO X ks jk pa on))] (n:=ks.length) (P:=fun i => .str (ks.getD i qS)) (fun i=>false) (fun i => .str (ks.getD i qS)) (by kernel_rfl!) (by kernel_rfl!) (cctx_cons (b := .fz (matO X ks jk pa on)) (by walk_at "lk") (by kernel_rfl!) rfl cctx_nil) (It.toC (It.keys ok (kdStr X.prog X.w) backS qS (E.b2jW rfl rfl ok hK (by walk_at "en")))) (Nat.le_trans len (by decide)) (fun X' ok' sc' top i hi=>⟨[((ofString "x"),.fz (.str (ks.getD i qS))),((ofString "m"),.fz (matO X ks jk pa on))], ?c1, ?c2,AsL.name ok' ((sc'.kind _).trans (by kernel_rfl!)),TB.one ?t,fun zz=>by walk_at "en"⟩) (fun i zz zz=>trivial))) (E.ofN (N.disp ok .nil rfl (by walk_at "ms"))) (Cmp.neNil ok (.list _))) fun zz=>B.or0))) (fun h=>by cases h) fun zz=>Ex.nil (Ex.done (Ex.weak ?w (r ks nd hk')))
 case c1 =>
  intro z b e
  simp only [List.lookup_cons] at e
  repeat' split at e
  all_goals first | (cases e; rfl) | simp at e
 case c2=>walk_at "sb"
 case w =>
  show ∀ x b,_ → _
  walk_at "sb"
 case t =>
  have hK' : X'.K = frag X'.w.params:=by rw [top.K,top.w,hK]
  have hg:=get i hi
  have pl:=plS_len (ks.getD i qS) pa
  have sub : ∀ {pv ps pi pz : Pos},E X' [((ofString "x"),.fz (.str (ks.getD i qS))),((ofString "m"),.fz (matO X ks jk pa on))] (.Subscript (.Attribute (.Name (ofString "m") pv) (ofString "b2j") ps) (.Name (ofString "x") pi) pz) (lW (plS (ks.getD i qS) pa)):=fun {pv ps pi pz} =>
   E.subD (kdStr X'.prog X'.w) (f:=f3 jk pa on) (k:=ks.getD i qS) (E.dicO (E.b2jW (X:=X') top.prog top.w ok' hK' (by walk_at "en"))) (show E X' _ _ (.str (ks.getD i qS)) from by walk_at "en") (f3_get hg)
  exact B.eq (x:=false || (decide (plS (ks.getD i qS) pa ≠ plS (ks.getD i qS) pa) || false)) (by walk_at "ms") (B.all (B.or (B.compare sub (E.ofN (N.disp ok' .nil rfl (by walk_at "ms"))) (Cmp.eqNil ok' (p:=lW (plS (ks.getD i qS) pa)) (xs:=(plS (ks.getD i qS) pa).map .int) (.list _) (by rw [List.length_map]; exact plS_ne (mem _ hg)))) fun zz=>B.or (B.compare sub (E.ofN (N.sortedUp ok' (by walk_at "bn") sub (.list _) (by omega) (plS_up _ _) rfl)) (Cmp.neInts ok' (.list _) (.list _))) fun zz=>B.or0))
end Mine
end
section
namespace Mine
section
variable {prog : Program} {w : World} {A : Around} {h : Heap} {cenv : Env}
noncomputable def CompBodyD (prog : Program) (w : World) (A : Around) (cenv : Env) (target : PySem.Expr) (ifs : List PySem.Expr) (kx vx : PySem.Expr) (acc : Addr) (v : Value) (h : Heap) (R : Heap → Prop) : Prop :=
 TP prog w A (assign target cenv v) h fun zz h₂=>TP prog w A (compTests cenv ifs) h₂ fun ok h₃=>if ok = true then TP prog w A (eval kx cenv) h₃ fun x h₄=>TP prog w A (eval vx cenv) h₄ fun y h₅=>TP prog w A (dictSet acc x y) h₅ fun zz h₆=>R h₆ else R h₃
theorem tlp_loopD {kx vx target iter : PySem.Expr} {ifs : List PySem.Expr} {scope : Scope} {pos : Pos} {it : Value} {acc : Addr} {Q : Heap → Prop} (I : Nat → Heap → Prop)
  (turn : ∀ n h,I n h → TP prog w A (pyNext it) h fun r h₁=>match r with
   | none=>Q h₁
   | some v=>TP prog w A (letOwnedTupleGo target it v) h₁ fun zz h₂=>CompBodyD prog w A cenv target ifs kx vx acc v h₂ fun h₃ => ∃ m,m < n ∧ I m h₃)
  (n : Nat) (hI : I n h) : TLP prog w A (.compLoop (.DictComp kx vx [⟨target,iter,ifs,0⟩] scope pos) 0 it (.ref acc) cenv) h Q:=fun s es hp=>by
 subst es
 refine codeAny_loop rfl (fun n=>Po s (fun (_ : Unit)=>I n) ()) ?_ n ⟨s.heap,s.toks,_,hp,hI⟩
 rintro n s' ⟨h',tk,_,hp,hI⟩
 show wpAny _ A ((compTurn (.DictComp kx vx [⟨target,iter,ifs,0⟩] scope pos) 0 it (.ref acc) cenv).onRaise (fun x=>do noteFrame x cenv; theTreesLotGoes x)) _ _ _
 refine wpAny_noted ?_
 rw [compTurn_dict]
 refine wpAny_bind (wpAny_standAt (wpAny_bind (TP.nx (turn n h' hI) hp ?_)))
 rintro r h₁ t₁ _ hp z
 cases r with
 | none=>exact wpAny_pure ⟨_,_,_,hp,z⟩
 | some v =>
  refine wpAny_bind (TP.nx z hp ?_)
  rintro _ h₂ t₂ _ hp z
  refine wpAny_bind (TP.nx z hp ?_)
  rintro _ h₃ t₃ _ hp z
  refine wpAny_bind (TP.nx z hp ?_)
  rintro ok h₄ t₄ _ hp z
  cases ok with
  | false =>
   obtain ⟨k,hk,z⟩:=z
   exact wpAny_pure ⟨rfl,k,hk,_,_,_,hp,z⟩
  | true =>
   refine wpAny_bind (wpAny_bind (TP.nx z hp ?_))
   rintro x h₅ t₅ _ hp z
   refine wpAny_bind (wpAny_holding (TP.nx z hp ?_))
   rintro y h₆ t₆ _ hp z
   refine wpAny_bind (wpAny_standAt (wpAny_holding (TP.nx z hp ?_)))
   rintro _ h₇ t₇ _ hp ⟨k,hk,z⟩
   exact wpAny_pure ⟨rfl,k,hk,_,_,_,hp,z⟩
theorem t_dictSetK {K : Type} [DecidableEq K] {knd : KeyKind prog w K} {d : Addr} {o : Obj} {kvs : List (K × Value)} {k : K} {key v : Value} {Q : Unit → Heap → Prop} (hk : knd.is k key = true) (ho : h.get? d = some o) (hd : IsDicK knd o kvs) (hsz : kvs.length ≤ sizeLine)
  (q : ∀ h' o',Sub [d] h h' → h'.get? d = some o' → IsDicK knd o' (stored kvs k v) → Q () h') : T prog w A (dictSet d key v) h Q:=fun s es=>by
 subst es
 refine wpAny_dictSet_pairs (hsz:=hsz) hk (dicOfK ho hd) fun h' hm hs => ?_
 obtain ⟨o',ho',hd'⟩:=Heap.dictOf_iff.mp hm
 exact ⟨h',_,q h' o' (Sub.same hs) ho' hd'⟩
theorem stored_new {K : Type} [DecidableEq K] {kvs : List (K × Value)} {k : K} {v : Value} (h : k ∉ kvs.map (·.1)) : stored kvs k v = kvs ++ [(k,v)]:=by
 unfold stored
 rw [if_neg]
 intro z
 obtain ⟨x,hx,e⟩:=List.any_eq_true.mp z
 exact h (List.mem_map.mpr ⟨x,hx,of_decide_eq_true e⟩)
end
section
variable {X : Fm} {Γ Γ' Γc : Ctx} {F F' : Store} {m : Str → Option Value} {l : List (Addr × Obj)} {h h' : Heap} {K : Type} [DecidableEq K]
variable {env' : Env} {h₁ : Heap} {F₁ : Store} {scope : Scope} {xc : List (Str × Addr)} {ex : List (Addr × Obj)}
noncomputable def DicPO {prog : Program} {w : World} (knd : KeyKind prog w K) (ks : List K) (f : K → Option PV) : Store → Addr → Obj → Prop:=fun F a o => ∃ kvs,IsDicK knd o kvs ∧ kvs.map (·.1) = ks ∧ ∀ k,DVal prog w F (valueAt kvs k) (f k)
inductive DBody (X : Fm) (Γc : Ctx) (target : PySem.Expr) (p : PV) (kx vx : PySem.Expr) (k g : PV) : Prop
 | mk (Γ1 : Ctx) : (∀ x b,Γ1.lookup x = some b → b.addrs = []) → (∀ x b,Γc.lookup x = some b → Γ1.lookup x = some b) → AsL X Γc target p Γ1 → E X Γ1 kx k → E X Γ1 vx g → DBody X Γc target p kx vx k g
inductive CID (X X' : Fm) (Γc : Ctx) (F₁ : Store) (St : Nat → Obj → Prop) (knd : KeyKind X.prog X.w K) (ks : Nat → K) (g : Nat → PV) (n : Nat) (acc I : Addr) (ex : List (Addr × Obj)) (k : Nat) (h : Heap) : Prop
 | mk (i : Nat) (F1 : Store) (m1 : Str → Option Value) (oa : Obj) (kvs : List (K × Value)) (o : Obj) (ex1 : List (Addr × Obj)) : k + i = n → (∀ a o,F₁ a o → F1 a o) → Holds X' Γc F1 m1 ((acc,oa) :: (I,o) :: ex1) h → ex1.map (·.1) = ex.map (·.1) → IsDicK knd oa kvs → kvs.map (·.1) = (List.range i).map ks → (∀ j,j < i → ∃ v,valueAt kvs (ks j) = some v ∧ Rep X.prog X.w F1 noF v (g j)) → St i o → CID X X' Γc F₁ St knd ks g n acc I ex k h
theorem isDic_ncel {prog : Program} {w : World} {knd : KeyKind prog w K} {o : Obj} {kvs : List (K × Value)} (hd : IsDicK knd o kvs) : ∀ v,¬ IsCel o v:=fun v hv=>by
 obtain ⟨es,ep,_,e,_⟩:=hd
 rw [IsCel,e] at hv; cases hv
variable {kx vx target : PySem.Expr} {n : Nat} {P : Nat → PV} {ks : Nat → K} {g : Nat → PV} {acc I : Addr} {St : Nat → Obj → Prop} {Pv : Nat → Value → Prop}
theorem comp_turnD (kd : Kd X.prog X.w K) (ok : FmOk X) (hnoc : ∀ x c,Γc.lookup x = some c → c.addrs = []) (body : ∀ i,i < n → DBody (cFm X env' h₁ F₁ l) Γc target (P i) kx vx (kd.pv (ks i)) (g i)) (hg : ∀ i,i < n → Safe (g i)) (hn : n ≤ 1000000) (inj : ∀ i j,i < n → j < n → ks i = ks j → i = j)
  (H₁ : Holds X Γ F₁ m l h₁) (itr : Iter X.prog X.w X.A I h₁ n Pv St target) (nv : ∀ i o,St i o → NoVal o) (rp : ∀ i v,i < n → Pv i v → Rep X.prog X.w F₁ (RS X l) v (P i)) {f : K → Option PV} (hf : ∀ i,i < n → f (ks i) = some (g i)) (hf0 : ∀ k,k ∉ (List.range n).map ks → f k = none)
  {k : Nat} (ci : CID X (cFm X env' h₁ F₁ l) Γc F₁ St kd.knd ks g n acc I ex k h) {Qn In : Heap → Prop} (hq : ∀ h',CE X Γ F₁ m l h₁ acc env'.locals (.obj (DicPO kd.knd ((List.range n).map ks) f)) h' → Qn h') (hi : ∀ j h',j < k → CID X (cFm X env' h₁ F₁ l) Γc F₁ St kd.knd ks g n acc I ex j h' → In h') :
  TP X.prog X.w X.A (pyNext (.ref I)) h fun r h₁=>match r with
   | none=>Qn h₁
   | some v=>TP X.prog X.w X.A (letOwnedTupleGo target (.ref I) v) h₁ fun zz h₂=>CompBodyD X.prog X.w X.A env' target [] kx vx acc v h₂ In:=by
 obtain ⟨i,F1,m1,oa,kvs,o,ex1,hk,le1,HH,hex,dv,kk,rv,hst⟩:=ci
 have HS : S h₁ [] env'.locals m1 ((acc,oa) :: (I,o) :: ex1) h:=HH.s
 have gI : h.get? I = some o:=HS.get (.tail _ (.head _))
 have len : kvs.length = i:=by have:=congrArg List.length kk; simpa using this
 by_cases hlt : i < n
 ·refine (TP.of (itr.item i h o hlt HS.base gI hst)).mono fun r h₄ ⟨v,o',hr,hP,s₄,g₄,hst'⟩ => ?_
  subst hr
  have H₄:=HH.ledU hnoc (i:=1) (a:=I) (o:=o) rfl (nv _ _ hst).2.1 (nv _ _ hst').2.1 rfl s₄ g₄
  refine (TP.of (itr.go i v h₄ o' hP g₄ hst')).mono fun zz h₅ e5 => ?_
  subst e5
  obtain ⟨Γ1,no1,up1,as1,ek,ev⟩:=body i hlt
  refine (as1.c F1 m1 _ h₅ v H₄ ((rp i v hlt hP).mono le1 fun zz zz e=>e)).mono fun _ h₆ ⟨F6,m6,l6,le6,H₆,hm6,kl6⟩ => ?_
  obtain ⟨ex6,rfl,hex6⟩:=led_two (ex:=ex1) H₆.s hm6 ((kl6 acc oa (.head _)).elim (fun ⟨u,q⟩=>(isDic_ncel dv u q).elim) id) ((kl6 I o' (.tail _ (.head _))).elim (fun ⟨u,q⟩=>((nv _ _ hst').2.1 _ q).elim) id)
  refine (TB.nil F6 m6 _ h₆ H₆).mono fun c h₇ ⟨F7,le7,H₇,hc⟩ => ?_
  subst hc
  rw [if_pos rfl]
  refine E.go ek H₇ fun F8 x h₈ le8 H₈ r8=>E.go ev H₈ fun F9 y h₉ le9 H₉ r9 => ?_
  have le : ∀ a o,F1 a o → F9 a o:=fun a o e=>le9 a o (le8 a o (le7 a o (le6 a o e)))
  refine TP.of (t_dictSetK (kd.rep r8).1 (H₉.s.get (.head _)) dv (by rw [sizeLine_eq]; omega) fun h10 o10 s10 g10 d10 => ?_)
  have nk : ks i ∉ kvs.map (·.1):=fun z=>by
   rw [kk] at z
   obtain ⟨j,hj,e⟩:=List.mem_map.mp z
   have hj:=List.mem_range.mp hj
   exact absurd (inj _ _ (Nat.lt_trans hj hlt) hlt e) (Nat.ne_of_lt hj)
  refine hi (k - 1) _ (by omega) ⟨i + 1,F9,m6,o10,_,o',ex6,by omega,fun a o e=>le a o (le1 a o e),(H₉.ledU no1 (i:=0) (a:=acc) (o:=oa) rfl (isDic_ncel dv) (isDic_ncel d10) rfl s10 g10).weak up1,hex6.trans hex,d10, ?_,fun j hj => ?_,hst'⟩
  ·rw [stored_new nk,List.map_append,kk,List.range_succ,List.map_append]; rfl
  ·rw [valueAt_stored']
   rcases Nat.lt_succ_iff_lt_or_eq.mp hj with hj | rfl
   ·obtain ⟨v,e1,e2⟩:=rv j hj
    have ne : ks j ≠ ks i:=fun e=>absurd (inj _ _ (Nat.lt_trans hj hlt) hlt e) (Nat.ne_of_lt hj)
    rw [if_neg ne]
    exact ⟨v,e1,e2.mono le fun zz zz e=>e⟩
   ·rw [if_pos rfl]
    exact ⟨y,rfl,Rep.safe (R':=noF) r9 (hg j hlt)⟩
 ·obtain rfl : i = n:=by omega
  refine (TP.of (itr.done h o HS.base gI hst)).mono fun r h₄ ⟨hr,s₄⟩ => ?_
  subst hr
  have nd : acc ≠ I:=fun q=>by
   have:=HS.nodup
   rw [List.map_cons,List.map_cons,List.nodup_cons] at this
   exact this.1 (q ▸ .head _)
  have HB : S h₁ [] env'.locals m1 [(acc,oa)] h₄:=(HS.drop (l':=[(acc,oa)]) (List.cons_sublist_cons.mpr (List.nil_sublist _)) (by walk_at "ms")).keepBut s₄ fun b hb=>by
   obtain rfl : b = I:=by simpa using hb
   exact ⟨by simp,(HS.own (b,o) (.tail _ (.head _))).resolve_left (by walk_at "ms"),fun z=>HS.offL (z ▸ .tail _ (.head _)),by simpa using nd.symm⟩
  have fr1:=H₁.fresh ((HS.own (acc,oa) (.head _)).resolve_left (by walk_at "ms"))
  have hfv : ∀ k,DVal X.prog X.w F1 (valueAt kvs k) (f k):=fun k=>by
   by_cases c : k ∈ (List.range i).map ks
   ·obtain ⟨j,hj,rfl⟩:=List.mem_map.mp c
    obtain ⟨v,e1,e2⟩:=rv j (List.mem_range.mp hj)
    rw [e1,hf j (List.mem_range.mp hj)]; exact e2
   ·have : valueAt kvs k = none:=by
     cases q : valueAt kvs k with
     | none=>rfl
     | some u=>exact absurd (kk ▸ valueAt_some.mp (by rw [q]; rfl)) c
    rw [this,hf0 k c]; trivial
  have oR : ORep X.prog X.w F1 (RS X l) oa (.obj (DicPO kd.knd ((List.range i).map ks) f)) := .obj ⟨fun zz=>⟨kvs,dv,kk,hfv⟩,dv.cls.1,let ⟨es,ep,_,e,_⟩:=dv; ⟨es,ep,e⟩,fun F' q zz=>⟨kvs,dv,kk,fun k=>(hfv k).up q⟩⟩
  refine hq _ ⟨m1,F1,oa,HB.ns,HB.newL,le1,(H₁.sub HB.base).grow le1 (fun a o e=>⟨s₄ _ _ (fun z => ?_) (HH.fz a o e).1, ?_⟩) fun a o e => ?_,HB.get (.head _),⟨fr1.new,fr1.offL,fr1.offl,fun o e=>(HH.fz acc o e).2.2 (.head _)⟩,oR,fun z=>HS.offL (z ▸ .head _),fun a o e=>(HH.fz a o e).2.1⟩
  ·obtain rfl : a = I:=by simpa using z
   exact (HH.fz a o e).2.2 (.tail _ (.head _))
  ·exact (HH.fn a o e).elim (fun q=>(H₁.fz a o q).2) fun q=>(H₁.s.fresh q).2
  ·exact (HH.fn a o e).elim (H₁.fn a o) fun q => .inr (H₁.s.fresh q).1
end
end Mine
end
section
namespace Mine
section
variable {X : Fm} {Γ Γ' Γc : Ctx} {F F' : Store} {m : Str → Option Value} {l : List (Addr × Obj)} {h h' : Heap} {K : Type} [DecidableEq K]
theorem isDicK_new {prog : Program} {w : World} {knd : KeyKind prog w K} : IsDicK knd { cls := .type "dict",dict:=none,data := .dict #[] } []:=⟨#[],0,⟨rfl,rfl,rfl⟩,rfl,fun zz he=>by simp at he,.nil,.nil⟩
variable {s : Scope} {cn : List Str}
theorem comp_runD {lo : Nat} (ok : FmOk X) (sc : Sc X s cn) {kx vx target iter : PySem.Expr} {scope : Scope} {pos pos' : Pos} {n : Nat} {P : Nat → PV} {ks : Nat → K} {g : Nat → PV} (kd : Kd X.prog X.w K) {xs : List Str} (lays : LaysEnv scope xs)
    (hfree : ∀ y ∈ scope.names, y.2 = .free → (X.env.cells.lookup y.1).isSome = true) (hnames : ∀ y ∈ scope.names, y.2 = .local → scope.names.lookup y.1 = some .local) (hkind : scope.kind = .function) (hcc : CompCtx s scope Γ Γc) (it : ItCL lo X Γ iter target n P) (hn : n ≤ 1000000)
    (body : ∀ X' : Fm, CFrm X X' s scope xs → ∀ i, i < n → DBody X' Γc target (P i) kx vx (kd.pv (ks i)) (g i)) (hg : ∀ i, i < n → Safe (g i)) (inj : ∀ i j, i < n → j < n → ks i = ks j → i = j) {f : K → Option PV} (hf : ∀ i, i < n → f (ks i) = some (g i)) (hf0 : ∀ k, k ∉ (List.range n).map ks → f k = none) (hs : ∀ x, foldedSetIterable iter X.env x = pure x) {use : Option (Value → Sem Unit)} {Q' : Value → Shared → Prop} {s₀ : Shared}
    (H : Holds X Γ F m l s₀.heap) (hp₀ : Made lo s₀.toks (s₀.gens, s₀.drawn))
    (k : ∀ F₁ h₁ acc L h' tk gs, (∀ a o, F a o → F₁ a o) → Holds X Γ F₁ m l h₁ → CE X Γ F₁ m l h₁ acc L (.obj (DicPO kd.knd ((List.range n).map ks) f)) h' → Made 1 tk gs → compPost (model X.prog X.w) X.A (fun zz zz => False) use Q' (.ref acc) L (.ok .next) { s₀ with heap := h', toks := tk, gens := gs.1, drawn := gs.2 }) :
    wpAny (model X.prog X.w) X.A (comprehension (.DictComp kx vx [⟨target, iter, [], 0⟩] scope pos) scope X.env pos' (newDict) false (eval iter X.env) use) Q' (fun zz zz => False) s₀ := by
  refine wpAny_comprehension_free (use := use) rfl hs (closure_eq hfree) hkind hnames (TPL.el (it F m l _ H) rfl hp₀ fun xv h₁ t₁ gs₁ hp₁ ⟨F₁, le₁, H₁, hit⟩ => TP.nx hit hp₁ fun itv h₂ t₂ gs₂ hp₂ ⟨I, oI, St, Pv, ei, sub₂, nI, gI, st0, nv, itr, rp⟩ => ?_)
  subst ei
  have Itr := itr h₁ ⟨rfl, fun a o e => (H₁.fz a o e).1, fun a o e => H₁.rs ok e⟩
  refine wpAny_newObj_type (lays fun h₃ xc ex hxs oc s34 ns3 hex nde => ?_)
  dsimp only at oc s34 ns3 hex ⊢
  have nA : h₂.get? h₂.objs.size = none := get_size_none _
  generalize hH2 : h₂.push { cls := .type "dict", dict := none, data := .dict #[] } = H2 at oc s34 ns3 hex ⊢
  have gA : H2.get? h₂.objs.size = some { cls := .type "dict", dict := none, data := .dict #[] } := by rw [← hH2]; exact get_push_self _ _
  have s23 : Sub [] h₂ H2 := by rw [← hH2]; exact Sub.push _ _
  have nC : H2.get? H2.objs.size = none := get_size_none _
  generalize h₂.objs.size = aA at *
  generalize H2.objs.size = aC at *
  have s13 : Sub [] h₁ H2 := sub₂.trans s23
  have gI2 : H2.get? I = some oI := s23 _ _ (by walk_at "ms") gI
  have ne : ∀ {a c o}, H2.get? a = some o → H2.get? c = none → a ≠ c := fun h1 h2 z => by rw [z, h2] at h1; cases h1
  have HS : S h₁ [] aC (fun zz => none) ((aA, { cls := .type "dict", dict := none, data := .dict #[] }) :: (I, oI) :: ex) h₃ := {
    base := s13.trans s34
    ns := ns3
    led := fun p hp => by
      rcases List.mem_cons.mp hp with rfl | hp
      · exact s34 _ _ (by walk_at "ms") gA
      rcases List.mem_cons.mp hp with rfl | hp
      · exact s34 _ _ (by walk_at "ms") gI2
      · exact (hex p hp).1
    own := fun p hp => by
      rcases List.mem_cons.mp hp with rfl | hp
      · exact .inr (none_sub sub₂ nA)
      rcases List.mem_cons.mp hp with rfl | hp
      · exact .inr nI
      · exact .inr (none_sub s13 (hex p hp).2.1)
    nodup := by
      refine List.nodup_cons.mpr ⟨fun z => ?_, List.nodup_cons.mpr ⟨fun z => ?_, nde⟩⟩
      · rcases List.mem_cons.mp z with z | z
        · have z : aA = I := z
          rw [← z, nA] at gI; cases gI
        · obtain ⟨p, hp, e⟩ := List.mem_map.mp z
          exact ne gA (hex p hp).2.1 e.symm
      · obtain ⟨p, hp, e⟩ := List.mem_map.mp z
        exact ne gI2 (hex p hp).2.1 e.symm
    offL := fun z => by
      rcases List.mem_cons.mp z with z | z
      · exact ne gA nC z.symm
      rcases List.mem_cons.mp z with z | z
      · exact ne gI2 nC z.symm
      · obtain ⟨p, hp, e⟩ := List.mem_map.mp z
        exact (hex p hp).2.2 e
    newL := none_sub s13 nC
    dl := by simp }
  have oc := oc.up s13
  have off0 : ∀ p ∈ (aA, { cls := .type "dict", dict := none, data := .dict #[] }) :: (I, oI) :: ex, ∀ a o, F₁ a o → p.1 ≠ a := fun p hp a o e q => by
    rcases HS.own p hp with z | z
    · cases z
    · rw [q, (H₁.fz a o e).1] at z; cases z
  have hsc : (compEnvC scope (xc ++ closL X.env.cells scope.names []) aC X.env).scope = relabel scope X.env := rfl
  have ok' := cFm_ok ok H₁ hfree (cenv_ok ok.e hkind : EnvOk (compEnvC scope (xc ++ closL X.env.cells scope.names []) aC X.env)) rfl oc
  have fr : CFrm X (cFm X (compEnvC scope (xc ++ closL X.env.cells scope.names []) aC X.env) h₁ F₁ l) s scope xs := ⟨ok', ⟨hsc.trans (relabel_of (show X.env.scope = (scEnv s).scope from sc.s)), by
    show (xc ++ closL X.env.cells scope.names []).map (·.1) = _
    rw [List.map_append, closL_map, hxs]; rfl⟩, ⟨rfl, rfl, rfl, rfl, rfl⟩, fun x hx => by
    obtain ⟨c, hc⟩ := lookup_some (xc := xc) (hxs ▸ hx)
    exact ⟨c, by show (xc ++ closL X.env.cells scope.names []).lookup x = _; rw [List.lookup_append, hc]; rfl, (oc.new _ _ hc).1⟩⟩
  have noc : ∀ x c, Γc.lookup x = some c → c.addrs = [] := fun x c e => by
    obtain ⟨c', _, rfl, _⟩ := hcc x _ e
    exact inC_addrs _
  have loop : TLP X.prog X.w X.A (.compLoop (.DictComp kx vx [⟨target, iter, [], 0⟩] scope pos) 0 (.ref I) (.ref aA) (compEnvC scope (xc ++ closL X.env.cells scope.names []) aC X.env)) h₃ (CE X Γ F₁ m l h₁ aA aC (.obj (DicPO kd.knd ((List.range n).map ks) f))) :=
    tlp_loopD _ (fun j h ci => comp_turnD kd ok noc (body _ fr) hg hn inj H₁ Itr nv rp hf hf0 ci (fun zz q => q) fun i h' a c => ⟨i, a, c⟩) n ⟨0, F₁, _, _, [], oI, ex, rfl, fun zz zz e => e, cFm_holds ok sc H₁ hfree hcc hsc rfl oc HS off0 fun p hp => .tail _ (.tail _ hp), rfl, isDicK_new, rfl, fun j hj => absurd hj (Nat.not_lt_zero _), st0⟩
  have post : ∀ tk gs, Made 1 tk gs → codeAny (model X.prog X.w) X.A (.compLoop (.DictComp kx vx [⟨target, iter, [], 0⟩] scope pos) 0 (.ref I) (.ref aA) (compEnvC scope (xc ++ closL X.env.cells scope.names []) aC X.env)) (compPost (model X.prog X.w) X.A (fun zz zz => False) use Q' (.ref aA) aC) { s₀ with heap := h₃, toks := tk, gens := gs.1, drawn := gs.2 } := fun tk gs hp =>
    codeAny_mono (loop _ rfl hp) fun r s' z => by
      obtain ⟨h', tk, gs, hp, z⟩ := z
      exact k F₁ h₁ aA aC h' tk gs le₁ H₁ z hp
  exact codeAny_compStart_dict (post _ _ hp₂) (TP.nx (TP.of (Itr.self h₃ oI HS.base (HS.get (.tail _ (.head _))) st0)) hp₂ fun it' h₅ t₅ gs hp ⟨e1, e2⟩ => by
    subst e1; subst e2
    exact post _ _ hp)
theorem N.dictComp (ok : FmOk X) (sc : Sc X s cn) (kd : Kd X.prog X.w K) (Γc : Ctx) {kx vx target iter : PySem.Expr} {scope : Scope} {pos : Pos} {n : Nat} {P : Nat → PV} (ks : Nat → K) (g : Nat → PV) (f : K → Option PV)
  (hcell : compOk s cn scope = true) (hkind : scope.kind = .function) (hcc : CompCtx s scope Γ Γc) (it : ItC X Γ iter target n P) (hn : n ≤ 1000000)
  (body : ∀ X' : Fm,FmOk X' → Sc X' (relabel scope (scEnv s)) (closN scope.names) → SameTop X X' → ∀ i,i < n → DBody X' Γc target (P i) kx vx (kd.pv (ks i)) (g i))
  (hg : ∀ i,i < n → Safe (g i)) (inj : ∀ i j,i < n → j < n → ks i = ks j → i = j) (hf : ∀ i,i < n → f (ks i) = some (g i)) (hf0 : ∀ k,k ∉ (List.range n).map ks → f k = none) (hs : ∀ x,foldedSetIterable iter X.env x = pure x:=by intro _; rfl) : N X Γ (.DictComp kx vx [⟨target,iter,[],0⟩] scope pos) (.obj (DicPO kd.knd ((List.range n).map ks) f)):=fun F m l h H s₀ es hp₀=>by
 subst es
 show wpAny _ _ (comprehension (.DictComp kx vx [⟨target,iter,[],0⟩] scope pos) scope X.env (firstIterPos [⟨target,iter,[],0⟩] pos) newDict (firstAsync [⟨target,iter,[],0⟩]) (firstIter [⟨target,iter,[],0⟩] X.env)) _ _ _
 rw [compOk,Bool.and_eq_true,Bool.and_eq_true] at hcell
 exact comp_runD (lo:=1) ok sc kd (lays0 (comp_looks hcell.1.1 hcell.1.2).1 hkind) (comp_free sc hcell.2) (comp_local hcell.1.2) hkind hcc it hn (fun X' fr i hi=>body X' fr.ok fr.sc fr.top i hi) hg inj hf hf0 hs H hp₀ fun F₁ h₁ acc L h' tk gs le₁ H₁ ce hp =>
  let ⟨m₁,ns,q⟩:=ce.np le₁ H₁; ⟨m₁,ns,fun h'' hs'' => .mk _ _ _ hp (q h'' hs'')⟩
theorem E.ofDic (ok : FmOk X) (hK : X.K = frag X.w.params) {knd : KeyKind X.prog X.w K} {ks : List K} {f : K → Option PV} {e : PySem.Expr} (n : N X Γ e (.obj (DicPO knd ks f))) : E X Γ e (.obj (KDicO knd ks f)):=fun F m l h H=>(n F m l h H).mono fun v h' ⟨F',a,o,le,H',hv,ho,fr,oR⟩=>by
 subst hv
 have lo : (a == sysModules) = false:=beq_eq_false_iff_ne.mpr fun q=>by
  have G:=(hK ▸ ok.gr X.h₀ Sub.refl : Gr (frag X.w.params) X.h₀)
  have:=G.k sysModules (PySem.W.boot_o_1 X.w.params) (by kernel_rfl!)
  rw [← q,fr.new] at this; cases this
 refine ⟨F'.add a o,fun b p e => .inl (le b p e),H'.lay fr ho, ?_⟩
 cases oR with
 | obj h1 =>
  have h2:=h1.up (F':=F'.add a o) fun zz zz e zz => .inl e
  exact .obj (.inr ⟨rfl,rfl⟩) ⟨lo,h2.p a⟩ h2.nv fun F2 q=>⟨lo,h2.mono F2 q a⟩
end
end Mine
end
section
noncomputable def Mine.bsum (p : Nat → Bool) (n : Nat) : Nat:=(((List.range n).filter p).map (2 ^ ·)).sum
namespace Mine
theorem bsum_succ (p : Nat → Bool) (n : Nat) : bsum p (n + 1) = bsum p n + (if p n then 2 ^ n else 0):=by
 unfold bsum
 rw [List.range_succ,List.filter_append,List.map_append,List.sum_append]
 cases h : p n <;> simp [h]
theorem bsum_lt (p : Nat → Bool) : ∀ n,bsum p n < 2 ^ n
 | 0=>Nat.one_pos
 | n + 1=>by
  rw [bsum_succ,Nat.pow_succ]
  have:=bsum_lt p n
  split <;> omega
theorem bsum_bit (p : Nat → Bool) : ∀ n j,(bsum p n).testBit j = (decide (j < n) && p j)
 | 0,j=>by simp [bsum]
 | n + 1,j=>by
  rw [bsum_succ]
  have lt:=bsum_lt p n
  have ih:=bsum_bit p n j
  by_cases hp : p n = true
  ·rw [if_pos hp,Nat.add_comm]
   rcases Nat.lt_trichotomy j n with c | c | c
   ·rw [Nat.testBit_two_pow_add_gt c,ih,decide_eq_true c,decide_eq_true (Nat.lt_succ_of_lt c)]
   ·subst c
    rw [Nat.testBit_two_pow_add_eq,ih,decide_eq_false (Nat.lt_irrefl j),decide_eq_true (Nat.lt_succ_self j),hp]; rfl
   ·have hlt : 2 ^ n + bsum p n < 2 ^ j:=Nat.lt_of_lt_of_le (show _ < 2 ^ (n + 1) by rw [Nat.pow_succ]; omega) (Nat.pow_le_pow_right (by decide) c)
    rw [Nat.testBit_lt_two_pow hlt,decide_eq_false (by omega)]; rfl
  ·rw [if_neg hp,Nat.add_zero,ih]
   by_cases c : j = n
   ·subst c
    rw [Bool.eq_false_iff.mpr hp,Bool.and_false,Bool.and_false]
   ·by_cases d : j < n
    ·rw [decide_eq_true d,decide_eq_true (Nat.lt_succ_of_lt d)]
    ·rw [decide_eq_false d,decide_eq_false (by omega)]
theorem bsum_add (p q : Nat → Bool) (h : ∀ j,p j = true → q j = false) : ∀ n,bsum (fun j=>p j || q j) n = bsum p n + bsum q n
 | 0=>rfl
 | n + 1=>by
  rw [bsum_succ,bsum_succ,bsum_succ,bsum_add p q h n]
  cases hp : p n with
  | true=>rw [h n hp]; simp; omega
  | false=>cases hq : q n <;> simp [Nat.add_assoc]
theorem bsum_congr {p q : Nat → Bool} {n : Nat} (h : ∀ j,j < n → p j = q j) : bsum p n = bsum q n:=by
 unfold bsum
 rw [List.filter_congr fun j hj=>h j (List.mem_range.mp hj)]
theorem bsum_all : ∀ n,bsum (fun zz=>true) n = 2 ^ n - 1
 | 0=>rfl
 | n + 1=>by
  rw [bsum_succ,bsum_all n,Nat.pow_succ,if_pos rfl]
  have : 0 < 2 ^ n:=Nat.two_pow_pos n
  omega
theorem bsum_kinds {α : Type} [BEq α] [LawfulBEq α] (f : Nat → α) (n : Nat) : ∀ ks : List α,ks.Nodup → (ks.map fun k=>bsum (fun j=>f j == k) n).sum = bsum (fun j=>ks.contains (f j)) n
 | [],_=>by
  unfold bsum
  rw [List.filter_eq_nil_iff.mpr (fun zz zz=>by simp)]; rfl
 | k :: ks,nd=>by
  rw [List.nodup_cons] at nd
  rw [List.map_cons,List.sum_cons,bsum_kinds f n ks nd.2,← bsum_add]
  ·exact bsum_congr fun j zz=>by rw [List.contains_cons]
  ·intro j h
   rw [beq_iff_eq] at h
   rw [h,List.contains_eq_mem,decide_eq_false nd.1]
theorem one_bit (k : Nat) : Nat.testBit 1 k = decide (k = 0):=by
 rw [Bool.eq_iff_iff,decide_eq_true_eq]
 exact Nat.testBit_one_eq_true_iff_self_eq_zero
theorem led_bit (r k : Nat) : ((r <<< 1) ||| 1).testBit k = ((decide (1 ≤ k) && r.testBit (k - 1)) || decide (k = 0)):=by
 rw [Nat.testBit_or,Nat.testBit_shiftLeft,one_bit]
section
variable (mis : Nat → Nat → Bool) (n : Nat)
noncomputable def wrong (i k : Nat) : Nat:=((List.range (k + 1)).filter fun j=>mis j (i - k + j)).length
theorem wrong_zero (i : Nat) : wrong mis i 0 = if mis 0 i = true then 1 else 0:=by
 unfold wrong
 rw [List.range_one,List.filter_cons,Nat.sub_zero,Nat.add_zero]
 split <;> rfl
theorem wrong_succ {i k : Nat} (h : k ≤ i) : wrong mis (i + 1) (k + 1) = wrong mis i k + if mis (k + 1) (i + 1) = true then 1 else 0:=by
 unfold wrong
 rw [List.range_succ,List.filter_append,List.length_append,Nat.succ_sub_succ]
 congr 1
 rw [List.filter_cons,show i - k + (k + 1) = i + 1 by omega]
 split <;> rfl
noncomputable def rowD (d i : Nat) : Nat:=bsum (fun k=>decide (wrong mis i k ≤ d)) (min (i + 1) n)
theorem rowD_bit (d i k : Nat) : (rowD mis n d i).testBit k = (decide (k ≤ i) && decide (k < n) && decide (wrong mis i k ≤ d)):=by
 rw [rowD,bsum_bit]
 congr 1
 rw [← Bool.decide_and]
 exact decide_eq_decide.mpr (by omega)
noncomputable def rowB (d : Nat) : Nat → Nat
 | 0=>0
 | i + 1=>rowD mis n d i
noncomputable def fitR (i : Nat) : Nat:=bsum (fun k => !mis k i) n
noncomputable def ledR (d i : Nat) : Nat:=(rowB mis n d i <<< 1) ||| 1
theorem ledR_zero (d i : Nat) : (ledR mis n d i).testBit 0 = true:=by
 rw [ledR,led_bit]; simp
theorem ledR_succ (d i k : Nat) : (ledR mis n d i).testBit (k + 1) = (rowB mis n d i).testBit k:=by
 rw [ledR,led_bit]; simp
theorem rowB_bit (d i k : Nat) : (rowB mis n d i).testBit k = (decide (k < i) && decide (k < n) && decide (wrong mis (i - 1) k ≤ d)):=by
 cases i with
 | zero=>simp [rowB]
 | succ i =>
  rw [rowB,rowD_bit,Nat.add_sub_cancel,show decide (k ≤ i) = decide (k < i + 1) from decide_eq_decide.mpr Nat.lt_succ_iff.symm]
theorem step0 (i : Nat) : ledR mis n 0 i &&& fitR mis n i = rowD mis n 0 i:=by
 refine Nat.eq_of_testBit_eq fun k => ?_
 rw [Nat.testBit_and,fitR,bsum_bit,rowD_bit]
 cases k with
 | zero =>
  rw [ledR_zero,wrong_zero]
  cases mis 0 i <;> simp
 | succ k =>
  rw [ledR_succ,rowB_bit]
  cases i with
  | zero=>simp
  | succ i =>
   rw [Nat.add_sub_cancel]
   by_cases c : k ≤ i
   ·rw [wrong_succ mis c]
    rw [Bool.eq_iff_iff]
    cases mis (k + 1) (i + 1) <;> simp <;> omega
   ·rw [Bool.eq_iff_iff]; simp; omega
theorem stepS (d i : Nat) : (ledR mis n (d + 1) i &&& fitR mis n i ||| ledR mis n d i) &&& (2 ^ n - 1) = rowD mis n (d + 1) i:=by
 refine Nat.eq_of_testBit_eq fun k => ?_
 rw [Nat.testBit_and,Nat.testBit_or,Nat.testBit_and,fitR,bsum_bit,rowD_bit,Nat.testBit_two_pow_sub_one]
 cases k with
 | zero =>
  rw [ledR_zero,ledR_zero,wrong_zero]
  cases mis 0 i <;> simp
 | succ k =>
  rw [ledR_succ,ledR_succ,rowB_bit,rowB_bit]
  cases i with
  | zero=>simp
  | succ i =>
   rw [Nat.add_sub_cancel]
   by_cases c : k ≤ i
   ·rw [wrong_succ mis c]
    rw [Bool.eq_iff_iff]
    cases mis (k + 1) (i + 1) <;> simp <;> omega
   ·rw [Bool.eq_iff_iff]; simp; omega
end
end Mine
end
section
namespace Mine
theorem band_nat (a b : Nat) : Builtin.bitAnd (a : Int) (b : Int) = ((a &&& b : Nat) : Int):=rfl
theorem bnot2 (x : Int) : Builtin.bitNot (Builtin.bitNot x) = x:=by unfold Builtin.bitNot; omega
theorem bnot_neg (a : Nat) : decide (0 ≤ Builtin.bitNot (a : Int)) = false:=decide_eq_false (by unfold Builtin.bitNot; omega)
theorem bor_nat (a b : Nat) : Builtin.bitOr (a : Int) (b : Int) = ((a ||| b : Nat) : Int):=by
 unfold Builtin.bitOr Builtin.bitAnd
 rw [bnot_neg,bnot_neg]
 show Builtin.bitNot (Builtin.bitNot (((Builtin.bitNot (Builtin.bitNot (a : Int))).toNat ||| (Builtin.bitNot (Builtin.bitNot (b : Int))).toNat : Nat) : Int)) = _
 rw [bnot2,bnot2,bnot2]; rfl
section
variable {X : Fm} {Γ : Ctx}
theorem E.borN {a b : PySem.Expr} {pos : Pos} {i j : Nat} (ea : E X Γ a (.int i)) (eb : E X Γ b (.int j)) : E X Γ (.BinOp a .BitOr b pos) (.int ((i ||| j : Nat) : Int)):=E.eq (by rw [bor_nat]) (E.bor ea eb)
theorem E.bandN {a b : PySem.Expr} {pos : Pos} {i j : Nat} (ea : E X Γ a (.int i)) (eb : E X Γ b (.int j)) : E X Γ (.BinOp a .BitAnd b pos) (.int ((i &&& j : Nat) : Int)):=E.eq (by rw [band_nat]) (E.band ea eb)
theorem E.shlN {a b : PySem.Expr} {pos : Pos} {i n : Nat} (ea : E X Γ a (.int i)) (eb : E X Γ b (.int n)) (hz : (Builtin.Int.intBits (i : Int) : Int) + n ≤ 2 ^ 27) : E X Γ (.BinOp a .LShift b pos) (.int ((i <<< n : Nat) : Int)):=E.eq (by rw [Nat.shiftLeft_eq,Int.natCast_mul,Int.natCast_pow]; rfl) (E.shl ea eb hz)
end
end Mine
end
section
namespace Mine
theorem filt_allW (n : Nat) : (List.range n).filter (fun zz=>true) = List.range n:=List.filter_eq_self.mpr fun zz zz=>rfl
theorem sw_dictN {env : Env} {kx vx : PySem.Expr} {gens : List Comprehension} {scope : Scope} {pos py : Pos} {y : Str} {line : Nat} (hy : env.kindOf y = some .cell) : swapsWith (.DictComp kx vx gens scope pos) (some (.Name y py)) line env = pure false:=by
 show (pure (env.blockKind == .function && env.kindOf y == some .local && py.line == pos.line && !(scope.names.any fun x=>x.1 == y && (x.2 == .local || x.2 == .cell))) : Sem Bool) = pure false
 rw [hy]
 cases (env.blockKind == .function) <;> rfl
noncomputable def rowK (k p : Str) : Nat:=bsum (fun j=>sgn p j == k) p.cps.size
noncomputable def bitF (ks : List Str) (pa : Str) (k : Str) : Option PV:=if k ∈ ks then some (.int (rowK k pa)) else none
theorem map_getDN {α : Type} {β : Type} (f : α → β) (d : α) (l : List α) : (List.range l.length).map (fun i=>f (l.getD i d)) = l.map f :=
 List.ext_getElem (by walk_at "ms") fun k h1 h2=>by
  have : k < l.length:=by simpa using h2
  simp [this]
theorem sum_cast (l : List Nat) : (l.map fun (j : Nat)=>(j : Int)).sum = ((l.sum : Nat) : Int):=by
 induction l with
 | nil=>rfl
 | cons a l ih=>rw [List.map_cons,List.sum_cons,List.sum_cons,ih,Int.natCast_add]
theorem rowB_sum (k p : Str) : ((atS k p).map fun (j : Nat)=>((2 ^ j : Nat) : Int)).sum = (rowK k p : Int):=by
 rw [rowK,bsum,← sum_cast,List.map_map]; rfl
noncomputable abbrev bitO (X : Fm) (ks : List Str) (pa : Str) : PV := .obj (KDicO (kdStr X.prog X.w).knd ks (bitF ks pa))
theorem nodup_inj {α : Type} {l : List α} (nd : l.Nodup) {i j : Nat} (hi : i < l.length) (hj : j < l.length) (e : l[i] = l[j]) : i = j:=by
 rcases Nat.lt_trichotomy i j with c | c | c
 ·exact absurd e (List.pairwise_iff_getElem.mp nd i j hi hj c)
 ·exact c
 ·exact absurd e.symm (List.pairwise_iff_getElem.mp nd j i hj hi c)
theorem law_f {tx pa : Str} {jk : List Str} {on : Bool} (hp : pa.length < 1000) (hj : jk.length ≤ 1000) {X : Fm} (ok : FmOk X) (sc : Sc X fdOf_law.scope (cellNames fdOf_law.scope.names [])) (cnew : ∀ x c,X.env.cells.lookup x = some c → X.h₀.get? c = none) (hK : X.K = frag X.w.params) {Q : Out → Prop} {ks : List Str}
  (r : Ex X [((ofString "wild"),.fz (lS (jk ++ often3 jk pa on))),((ofString "m"),.fz (matO X ks jk pa on)),((ofString "pattern"),.fz (.str pa)),((ofString "text"),.fz (.str tx))] ((bodyN (stN pwBody 9)).drop 12) Q) :
  Ex X [((ofString "m"),.fz (matO X ks jk pa on)),((ofString "often"),.fz (lS (often3 jk pa on))),((ofString "junk"),.fz (lS jk)),((ofString "pattern"),.fz (.str pa)),((ofString "text"),.fz (.str tx))] ((bodyN (stN pwBody 9)).drop 11) Q:=by
 have ol:=often_len jk pa on
 refine Ex.assign ok (E.ofN (N.cat ok (p:=lS jk) (q:=lS (often3 jk pa on)) (by walk_at "en") (by walk_at "en") (.list _) (.list _) (by rw [List.length_map,List.length_map]; omega))) ?_ (by walk_at "ld") ?_
 ·exact Safes.all fun x hx=>by
   rcases List.mem_append.mp hx with hx | hx <;> (obtain ⟨_,_,rfl⟩:=List.mem_map.mp hx; trivial)
 ·rw [← List.map_append]
  refine Ex.weak ?_ r
  walk_at "sb"
theorem law_g {tx pa : Str} {jk : List Str} {on : Bool} {wp : PV} (hp : pa.length < 1000) {X : Fm} (ok : FmOk X) (sc : Sc X fdOf_law.scope (cellNames fdOf_law.scope.names [])) (cnew : ∀ x c,X.env.cells.lookup x = some c → X.h₀.get? c = none) (hK : X.K = frag X.w.params) {Q : Out → Prop} {ks : List Str} (nd : ks.Nodup) (hk : ∀ k,k ∈ ks → keptS jk pa on k = true)
  (r : Ex X [((ofString "bits"),.fz (bitO X ks pa)),((ofString "wild"),.fz wp),((ofString "m"),.fz (matO X ks jk pa on)),((ofString "pattern"),.fz (.str pa)),((ofString "text"),.fz (.str tx))] ((bodyN (stN pwBody 9)).drop 13) Q) :
  Ex X [((ofString "wild"),.fz wp),((ofString "m"),.fz (matO X ks jk pa on)),((ofString "pattern"),.fz (.str pa)),((ofString "text"),.fz (.str tx))] ((bodyN (stN pwBody 9)).drop 12) Q:=by
 have get : ∀ i,i < ks.length → ks.getD i qS ∈ ks:=fun i hi=>by rw [List.getD_eq_getElem?_getD,List.getElem?_eq_getElem hi]; exact List.getElem_mem hi
 have len : ks.length ≤ 1000:=by
  have h1 : ks.length ≤ (sgns pa).length:=(nodup_len nd fun k h=>by
   have:=hk k h
   unfold keptS at this
   rw [Bool.and_eq_true,decide_eq_true_eq] at this
   exact this.1)
  rw [sgns_len] at h1
  have : pa.cps.size < 1000:=hp
  omega
 have key : (List.range ks.length).map (fun i=>ks.getD i qS) = ks:=by
  have:=map_getDN id qS ks
  rwa [List.map_id] at this
 refine Ex.assign ok (E.ofDic ok hK (knd:=(kdStr X.prog X.w).knd) (f:=bitF ks pa) (N.dictComp ok sc (kdStr X.prog X.w) [((ofString "m"),.fz (matO X ks jk pa on))] (n:=ks.length) (P:=fun i => .str (ks.getD i qS)) (fun i=>ks.getD i qS) (fun i => .int (rowK (ks.getD i qS) pa)) (bitF ks pa) (by kernel_rfl!) (by kernel_rfl!) (cctx_cons (b := .fz (matO X ks jk pa on)) (by walk_at "lk") (by kernel_rfl!) rfl cctx_nil) (It.toC (It.keys ok (kdStr X.prog X.w) backS qS (E.b2jW rfl rfl ok hK (by walk_at "en")))) (Nat.le_trans len (by decide)) (fun X' ok' sc' top i hi=>⟨[((ofString "sign"),.fz (.str (ks.getD i qS))),((ofString "m"),.fz (matO X ks jk pa on))], ?c1, ?c2,AsL.name ok' ((sc'.kind _).trans (by kernel_rfl!)),(show E X' _ _ (.str (ks.getD i qS)) from by walk_at "en"), ?t⟩) (fun i zz=>trivial) ?inj (fun i hi=>if_pos (get i hi)) ?none)) trivial (by walk_at "ld") ?rest (sw_dictN ((sc.kind _).trans (by kernel_rfl!)))
 case c1 =>
  intro z b e
  simp only [List.lookup_cons] at e
  repeat' split at e
  all_goals first | (cases e; rfl) | simp at e
 case c2=>walk_at "sb"
 case inj =>
  intro i j hi hj e
  rw [List.getD_eq_getElem?_getD,List.getElem?_eq_getElem hi,List.getD_eq_getElem?_getD,List.getElem?_eq_getElem hj] at e
  exact nodup_inj nd hi hj e
 case none =>
  intro k hk
  rw [key] at hk
  exact if_neg hk
 case rest =>
  rw [key]
  exact r
 case t =>
  have hK' : X'.K = frag X'.w.params:=by rw [top.K,top.w,hK]
  have hg:=hk _ (get i hi)
  have sub : ∀ {pv ps pi pz : Pos},E X' [((ofString "sign"),.fz (.str (ks.getD i qS))),((ofString "m"),.fz (matO X ks jk pa on))] (.Subscript (.Attribute (.Name (ofString "m") pv) (ofString "b2j") ps) (.Name (ofString "sign") pi) pz) (lW (plS (ks.getD i qS) pa)):=fun {pv ps pi pz} =>
   E.subD (kdStr X'.prog X'.w) (f:=f3 jk pa on) (k:=ks.getD i qS) (E.dicO (E.b2jW (X:=X') top.prog top.w ok' hK' (by walk_at "en"))) (show E X' _ _ (.str (ks.getD i qS)) from by walk_at "en") (f3_get hg)
  generalize ks.getD i qS = k at *
  have al : ∀ i,i < ((plS k pa).map PV.int).length → (atS k pa).getD i 0 < 1000:=fun i hi=>by
   rw [plS,List.length_map,List.length_map] at hi
   rw [List.getD_eq_getElem?_getD,List.getElem?_eq_getElem hi]
   have:=List.mem_range.mp (List.mem_filter.mp (List.getElem_mem hi)).1
   exact Nat.lt_trans this hp
  refine E.eq (x := .int ((atS k pa).map fun (j : Nat)=>((2 ^ j : Nat) : Int)).sum) (by rw [rowB_sum]) (E.sum ok' (by walk_at "bn") (E.ofN (N.eq (x := .list (((List.range ((plS k pa).map PV.int).length).filter fun zz=>true).map fun i=>PV.int ((2 ^ (atS k pa).getD i 0 : Nat) : Int))) ?l (N.comp ok' sc' [] (P:=fun i => .int (((atS k pa).getD i 0 : Nat) : Int)) (fun zz=>true) _ (by kernel_rfl!) (by kernel_rfl!) cctx_nil (It.toC (It.listN ok' sub (Safes.all fun x hx => ?s) fun i hi => ?g)) ?n (fun X2 ok2 sc2 top2 i hi=>⟨[((ofString "j"),.fz (.int (((atS k pa).getD i 0 : Nat) : Int)))], ?d1, ?d2,AsL.name ok2 ((sc2.kind _).trans (by kernel_rfl!)),.nil,fun zz => ?v⟩) fun i zz zz=>trivial))) (.list _) rfl)
  case l =>
   rw [filt_allW,List.length_map,plS,List.length_map,map_getDN (fun (j : Nat)=>PV.int ((2 ^ j : Nat) : Int)) 0 (atS k pa),List.map_map]; rfl
  case s=>obtain ⟨_,_,rfl⟩:=List.mem_map.mp hx; trivial
  case g =>
   rw [List.length_map,plS,List.length_map] at hi
   rw [plS,List.map_map,List.getElem?_map,List.getD_eq_getElem?_getD,List.getElem?_eq_getElem hi]; rfl
  case n =>
   have:=plS_len k pa
   rw [List.length_map]; omega
  case d1 =>
   intro z b e
   simp only [List.lookup_cons] at e
   repeat' split at e
   all_goals first | (cases e; rfl) | simp at e
  case d2=>intro x b e; cases e
  case v =>
   have:=al i hi
   refine E.eq (by rw [Nat.shiftLeft_eq,Nat.one_mul]) (E.shlN (i:=1) (n:=(atS k pa).getD i 0) (by walk_at "en") (by walk_at "en") ?_)
   have b1 : (Builtin.Int.intBits ((1 : Nat) : Int) : Int) ≤ 64:=by decide +kernel
   omega
end Mine
end
section
namespace Mine
theorem E.dicW {X : Fm} {Γ : Ctx} {prog : Program} {w : World} (h1 : X.prog = prog) (h2 : X.w = w) {e : PySem.Expr} {ks : List Str} {f : Str → Option PV} (ee : E X Γ e (.obj (KDicO (kdStr prog w).knd ks f))) : E X Γ e (.obj (KDicO (kdStr X.prog X.w).knd ks f)):=by
 subst h1 h2; exact ee
noncomputable def fullK (pa : Str) : Nat:=bsum (fun zz=>true) pa.cps.size
noncomputable def freeK (ks : List Str) (pa : Str) : Nat:=bsum (fun j => !ks.contains (sgn pa j)) pa.cps.size
theorem full_eq (pa : Str) : ((1 <<< pa.length : Nat) : Int) - 1 = (fullK pa : Int):=by
 have : 0 < 2 ^ pa.length:=Nat.two_pow_pos _
 rw [fullK,bsum_all,Nat.shiftLeft_eq,Nat.one_mul]
 show ((2 ^ pa.length : Nat) : Int) - 1 = ((2 ^ pa.length - 1 : Nat) : Int)
 omega
theorem free_eq {ks : List Str} (nd : ks.Nodup) (pa : Str) : (fullK pa : Int) - (ks.map fun k=>(rowK k pa : Int)).sum = (freeK ks pa : Int):=by
 have e1 : (ks.map fun k=>(rowK k pa : Int)).sum = (bsum (fun j=>ks.contains (sgn pa j)) pa.cps.size : Nat):=by
  rw [← bsum_kinds (sgn pa) pa.cps.size ks nd,← sum_cast,List.map_map]; rfl
 have e2 : fullK pa = bsum (fun j=>ks.contains (sgn pa j)) pa.cps.size + freeK ks pa:=by
  rw [fullK,freeK,← bsum_add]
  ·exact bsum_congr fun j zz=>by cases ks.contains (sgn pa j) <;> rfl
  ·intro j h; rw [h]; rfl
 rw [e1,e2]
 omega
theorem bits_list (ks : List Str) (pa : Str) : ((List.range ks.length).filter fun zz=>true).map (fun i=>PV.int (rowK (ks.getD i qS) pa)) = (ks.map fun k=>(rowK k pa : Int)).map .int:=by
 rw [filt_allW,map_getDN (fun k=>PV.int (rowK k pa)) qS ks,List.map_map]; rfl
theorem law_h {tx pa : Str} {wp : PV} (hp : pa.length < 1000) {X : Fm} (ok : FmOk X) (sc : Sc X fdOf_law.scope (cellNames fdOf_law.scope.names [])) (cnew : ∀ x c,X.env.cells.lookup x = some c → X.h₀.get? c = none) (hK : X.K = frag X.w.params) {Q : Out → Prop} {ks : List Str} (nd : ks.Nodup) (len : ks.length ≤ 1000) {mp : PV}
  (r : Ex X [((ofString "rows"),.fz (lW [0,0,0])),((ofString "free"),.fz (.int (freeK ks pa))),((ofString "full"),.fz (.int (fullK pa))),((ofString "bits"),.fz (bitO X ks pa)),((ofString "wild"),.fz wp),((ofString "pattern"),.fz (.str pa)),((ofString "text"),.fz (.str tx))] ((bodyN (stN pwBody 9)).drop 16) Q) :
  Ex X [((ofString "bits"),.fz (bitO X ks pa)),((ofString "wild"),.fz wp),((ofString "m"),.fz mp),((ofString "pattern"),.fz (.str pa)),((ofString "text"),.fz (.str tx))] ((bodyN (stN pwBody 9)).drop 13) Q:=by
 have b1 : (Builtin.Int.intBits ((1 : Nat) : Int) : Int) ≤ 64:=by decide +kernel
 refine Ex.assign ok (p := .int (fullK pa)) (E.eq (by rw [← full_eq]) (E.sub (E.shlN (i:=1) (n:=pa.length) E.cInt (E.lenS (by walk_at "bn") (by walk_at "en") (by omega) rfl) (by omega)) E.cInt)) trivial (by walk_at "ld") ?_
 refine Ex.assign ok (p := .int (freeK ks pa)) (E.eq (by rw [← free_eq nd]) (E.sub (by walk_at "en") (E.sum ok (by walk_at "bn") (E.ofN (N.eq (by rw [← bits_list]) (N.comp ok sc [((ofString "bits"),.fz (bitO X ks pa))] (n:=ks.length) (P:=fun i => .str (ks.getD i qS)) (fun zz=>true) (fun i => .int (rowK (ks.getD i qS) pa)) (by kernel_rfl!) (by kernel_rfl!) (cctx_cons (b := .fz (bitO X ks pa)) (by walk_at "lk") (by kernel_rfl!) rfl cctx_nil) (It.toC (It.keys ok (kdStr X.prog X.w) backS qS (by walk_at "en"))) (Nat.le_trans len (by decide)) (fun X' ok' sc' top i hi=>⟨[((ofString "sign"),.fz (.str (ks.getD i qS))),((ofString "bits"),.fz (bitO X ks pa))], ?c1, ?c2,AsL.name ok' ((sc'.kind _).trans (by kernel_rfl!)),.nil,fun zz => ?t⟩) (fun i zz zz=>trivial)))) (.list _) rfl))) trivial (by walk_at "ld") ?_
 case c1 =>
  intro z b e
  simp only [List.lookup_cons] at e
  repeat' split at e
  all_goals first | (cases e; rfl) | simp at e
 case c2=>walk_at "sb"
 case t =>
  exact E.subD (kdStr X'.prog X'.w) (f:=bitF ks pa) (k:=ks.getD i qS) (E.dicO (E.dicW (X:=X') top.prog top.w (by walk_at "en"))) (show E X' _ _ (.str (ks.getD i qS)) from by walk_at "en") (if_pos (by rw [List.getD_eq_getElem?_getD,List.getElem?_eq_getElem hi]; exact List.getElem_mem hi))
 refine Ex.assign ok (p:=lW [0,0,0]) (E.ofN (N.disp ok (.cons E.cInt (.cons E.cInt (.cons E.cInt .nil))) rfl (by decide))) ⟨trivial,trivial,trivial,trivial⟩ (by walk_at "ld") ?_
 refine Ex.weak ?_ r
 walk_at "sb"
end Mine
end
section
namespace Mine
noncomputable def misK (ks : List Str) (pa tx : Str) (j i : Nat) : Bool:=ks.contains (sgn pa j) && !(sgn pa j == sgn tx i)
theorem fit_eq (ks : List Str) (pa tx : Str) (i : Nat) : (if sgn tx i ∈ ks then rowK (sgn tx i) pa else 0) ||| freeK ks pa = fitR (misK ks pa tx) pa.cps.size i:=by
 refine Nat.eq_of_testBit_eq fun k => ?_
 rw [Nat.testBit_or,freeK,fitR,bsum_bit,bsum_bit]
 by_cases c : sgn tx i ∈ ks
 ·rw [if_pos c,rowK,bsum_bit]
  unfold misK
  cases decide (k < pa.cps.size) <;> cases ks.contains (sgn pa k) <;> cases (sgn pa k == sgn tx i) <;> rfl
 ·rw [if_neg c,Nat.zero_testBit]
  unfold misK
  cases q : (sgn pa k == sgn tx i) with
  | false=>cases decide (k < pa.cps.size) <;> cases ks.contains (sgn pa k) <;> rfl
  | true =>
   have e : sgn pa k = sgn tx i:=by simpa using q
   have : ks.contains (sgn pa k) = false:=by rw [e,List.contains_eq_mem,decide_eq_false c]
   rw [this]; cases decide (k < pa.cps.size) <;> rfl
end Mine
end
section
namespace Mine
section
variable {X : Fm} {Γ : Ctx} {K : Type} [DecidableEq K]
theorem E.getF (ok : FmOk X) (kd : Kd X.prog X.w K) {pl : Sem Bool} {x : Str} {px pa pc : Pos} {ek ed : PySem.Expr} {ks : List K} {f : K → Option PV} {k : K} {d : PV} (ex : E X Γ (.Name x px) (.obj (KDicO kd.knd ks f))) (e1 : E X Γ ek (kd.pv k)) (e2 : E X Γ ed d) (hst : noStars [ek,ed] = true)
  (he : ∀ Q' h,(TP X.prog X.w X.A (eval (.Name x px) X.env) h fun ov h₁=>TP X.prog X.w X.A (getMethod ov "get" pl) h₁ fun fx h₂=>TP X.prog X.w X.A (PySem.callWith pc fx.1 fx.2 (backTo pc (starEach [ek,ed] X.env)) []) h₂ Q') → TP X.prog X.w X.A (eval (.Call (.Attribute (.Name x px) "get" pa) [ek,ed] [] pc) X.env) h Q') : E X Γ (.Call (.Attribute (.Name x px) "get" pa) [ek,ed] [] pc) ((f k).getD d):=fun F m l h H=>by
 refine he _ _ (E.go ex H fun F₀ v₀ h₀ le₀ H₀ r₀ => ?_)
 obtain ⟨a,o,rfl,fa,⟨lo,kvs,hdk,_,hf⟩,nv⟩:=r₀.o
 refine TP.of (t_getMethodB (H₀.fz a o fa).1 hdk.cls.1 hdk.cls.2 PySem.F.plainAttrs_dict PySem.F.slot_dict_get PySem.F.type_dict_get ?_)
 refine TP.callWith (E.go e1 H₀ fun F₁ v h₁ le₁ H₁ r₁=>E.go e2 H₁ fun F₂ u h₂ le₂ H₂ r₂=>⟨Keeps.builtin, ?_⟩) hst
 have hf2 : ∀ k,DVal X.prog X.w F₂ (valueAt kvs k) (f k):=fun k=>(hf k).up fun a o e zz=>le₂ a o (le₁ a o e)
 refine TP.of (t_getK (kd.rep r₁).1 (H₂.fz a o (le₂ a o (le₁ a o fa))).1 hdk lo ⟨F₂,fun a o e=>le₂ a o (le₁ a o (le₀ a o e)),H₂, ?_⟩)
 have hk:=hf2 k
 cases hfk : f k with
 | none =>
  rw [hfk] at hk
  have : valueAt kvs k = none:=by
   cases q : valueAt kvs k with
   | none=>rfl
   | some u=>rw [q] at hk; exact hk.elim
  rw [this]
  exact r₂
 | some p =>
  rw [hfk] at hk
  obtain ⟨u',hu,ru⟩:=hk.some
  rw [hu]
  exact ru.ofNo
end
end Mine
end
section
namespace Mine
noncomputable def forB3 : Stmt → List Stmt
 | .For _ _ b _ _=>b
 | _=>[]
set_option tactic.hygienic true in
theorem bits_lt {a k : Nat} (h : a < 2 ^ k) : Builtin.Int.intBits (a : Int) ≤ k:=by
 unfold Builtin.Int.intBits
 split
 ·exact Nat.zero_le _
 ·rename_i c
  have : a ≠ 0:=fun z=>c (by rw [z]; rfl)
  exact (Nat.log2_lt this).mpr h
theorem rowB_lt (mis : Nat → Nat → Bool) (n d i : Nat) : rowB mis n d i < 2 ^ n:=by
 cases i with
 | zero=>exact Nat.two_pow_pos _
 | succ i=>exact Nat.lt_of_lt_of_le (bsum_lt _ _) (Nat.pow_le_pow_right (by decide) (Nat.min_le_right _ _))
theorem bitF_get (ks : List Str) (pa k : Str) : (bitF ks pa k).getD (.int 0) = .int ((if k ∈ ks then rowK k pa else 0 : Nat) : Int):=by
 unfold bitF
 split <;> rfl
noncomputable abbrev rowsL (mis : Nat → Nat → Bool) (n i : Nat) : List Int:=[(rowB mis n 0 i : Int),(rowB mis n 1 i : Int),(rowB mis n 2 i : Int)]
theorem law_i {tx pa : Str} {wp : PV} (hp : pa.length < 1000) (ht : tx.cps.size < 1000) {X : Fm} (ok : FmOk X) (sc : Sc X fdOf_law.scope (cellNames fdOf_law.scope.names [])) (cnew : ∀ x c,X.env.cells.lookup x = some c → X.h₀.get? c = none) (hK : X.K = frag X.w.params) {Q : Out → Prop} {ks : List Str} {i : Nat} (hi : i < tx.cps.size)
  (r : Ex X [((ofString "rows"),.fz (lW (rowsL (misK ks pa tx) pa.cps.size (i + 1)))),((ofString "i"),.fz (.int i)),((ofString "free"),.fz (.int (freeK ks pa))),((ofString "full"),.fz (.int (fullK pa))),((ofString "bits"),.fz (bitO X ks pa)),((ofString "wild"),.fz wp),((ofString "pattern"),.fz (.str pa)),((ofString "text"),.fz (.str tx))] ((forB3 (stN (bodyN (stN pwBody 9)) 16)).drop 3) Q) :
  Ex X [((ofString "i"),.fz (.int i)),((ofString "rows"),.fz (lW (rowsL (misK ks pa tx) pa.cps.size i))),((ofString "free"),.fz (.int (freeK ks pa))),((ofString "full"),.fz (.int (fullK pa))),((ofString "bits"),.fz (bitO X ks pa)),((ofString "wild"),.fz wp),((ofString "pattern"),.fz (.str pa)),((ofString "text"),.fz (.str tx))] (forB3 (stN (bodyN (stN pwBody 9)) 16)) Q:=by
 have hp' : pa.cps.size < 1000:=hp
 refine Ex.assign ok (p := .int (fitR (misK ks pa tx) pa.cps.size i)) (E.eq (by rw [← fit_eq]) (E.borN (E.eq (bitF_get ks pa (sgn tx i)) (E.getF ok (kdStr X.prog X.w) (k:=sgn tx i) (f:=bitF ks pa) (d := .int 0) (show E X _ _ (bitO X ks pa) from by walk_at "en") (E.subS (by walk_at "en") (by walk_at "en") hi (by omega)) E.cInt rfl (fun Q' h t=>TP.Call_method t))) (by walk_at "en"))) trivial (by walk_at "ld") ?_
 refine ex_assignCompL (lo:=1) ok sc [] (n:=3) (P:=fun d => .int (rowB (misK ks pa tx) pa.cps.size d i)) (fun zz=>true) (fun d => .int (ledR (misK ks pa tx) pa.cps.size d i)) (by kernel_rfl!) (by kernel_rfl!) cctx_nil (It.toC (It.listN ok (xs:=(rowsL (misK ks pa tx) pa.cps.size i).map .int) (by walk_at "en") ⟨trivial,trivial,trivial,trivial⟩ fun d hd => ?g)) (by decide) (fun X' ok' sc' top d hd=>⟨[((ofString "row"),.fz (.int (rowB (misK ks pa tx) pa.cps.size d i)))], ?d1, ?d2,AsL.name ok' ((sc'.kind _).trans (by kernel_rfl!)),.nil,fun zz => ?v⟩) (fun i zz zz=>trivial) ((sc.kind _).trans (by kernel_rfl!)) (sw_compW ok.e ((sc.kind _).trans (by kernel_rfl!)) rfl (by kernel_rfl!)) fun ao hao => ?rest
 case g =>
  match d,hd with
  | 0,_=>rfl
  | 1,_=>rfl
  | 2,_=>rfl
 case d1 =>
  intro z b e
  simp only [List.lookup_cons] at e
  repeat' split at e
  all_goals first | (cases e; rfl) | simp at e
 case d2=>intro x b e; cases e
 case v =>
  have b1:=bits_lt (rowB_lt (misK ks pa tx) pa.cps.size d i)
  exact E.borN (j:=1) (E.shlN (i:=rowB (misK ks pa tx) pa.cps.size d i) (n:=1) (by walk_at "en") E.cInt (by omega)) E.cInt
 case rest =>
  refine Ex.freeze ok hao (x:=(ofString "led")) (a:=ao) (by walk_at "lk") ?_
  have e1 : PV.list (((List.range 3).filter fun zz=>true).map fun d=>PV.int (ledR (misK ks pa tx) pa.cps.size d i)) = lW [(ledR (misK ks pa tx) pa.cps.size 0 i : Int),(ledR (misK ks pa tx) pa.cps.size 1 i : Int),(ledR (misK ks pa tx) pa.cps.size 2 i : Int)]:=rfl
  rw [e1]
  have s0:=step0 (misK ks pa tx) pa.cps.size i
  have s1:=stepS (misK ks pa tx) pa.cps.size 0 i
  have s2:=stepS (misK ks pa tx) pa.cps.size 1 i
  have f1 : fullK pa = 2 ^ pa.cps.size - 1:=bsum_all _
  rw [← f1] at s1 s2
  refine Ex.assign ok (p:=lW (rowsL (misK ks pa tx) pa.cps.size (i + 1))) (E.ofN (N.disp ok (.cons (E.eq (congrArg (fun n : Nat=>PV.int (n : Int)) s0) (E.bandN ?l0 (by walk_at "en"))) (.cons (E.eq (congrArg (fun n : Nat=>PV.int (n : Int)) s1) (E.bandN (E.borN (E.bandN ?l1 (by walk_at "en")) ?l2) (by walk_at "en"))) (.cons (E.eq (congrArg (fun n : Nat=>PV.int (n : Int)) s2) (E.bandN (E.borN (E.bandN ?l3 (by walk_at "en")) ?l4) (by walk_at "en"))) .nil))) rfl (by decide))) ⟨trivial,trivial,trivial,trivial⟩ (by walk_at "ld") ?fin
  case l0=>exact E.subL ok (i:=0) (by walk_at "en") E.cInt (.list _) (by decide) (by decide) rfl
  case l1=>exact E.subL ok (i:=1) (by walk_at "en") E.cInt (.list _) (by decide) (by decide) rfl
  case l2=>exact E.subL ok (i:=0) (by walk_at "en") E.cInt (.list _) (by decide) (by decide) rfl
  case l3=>exact E.subL ok (i:=2) (by walk_at "en") E.cInt (.list _) (by decide) (by decide) rfl
  case l4=>exact E.subL ok (i:=1) (by walk_at "en") E.cInt (.list _) (by decide) (by decide) rfl
  case fin =>
   refine Ex.weak ?_ r
   walk_at "sb"
end Mine
end
section
namespace Mine
noncomputable def wrongL (mis : Nat → Nat → Bool) (i n : Nat) : List Int:=(List.range n).map fun k=>(wrong mis i k : Int)
theorem wrongL_succ (mis : Nat → Nat → Bool) (i n : Nat) : (wrongL mis i (n + 1)).map PV.int = (wrongL mis i n).map PV.int ++ [.int (wrong mis i n)]:=by
 unfold wrongL
 rw [List.range_succ,List.map_append,List.map_append]; rfl
theorem law_j {tx pa : Str} {wl : List Str} (hp : pa.length < 1000) (ht : tx.cps.size < 1000) {X : Fm} (ok : FmOk X) (sc : Sc X fdOf_law.scope (cellNames fdOf_law.scope.names [])) (cnew : ∀ x c,X.env.cells.lookup x = some c → X.h₀.get? c = none) (hK : X.K = frag X.w.params) {Q : Out → Prop} {ks : List Str} {i : Nat} (hi : i < tx.cps.size) (hw : ∀ j,j < pa.cps.size → (!decide (sgn pa j ∈ wl)) = ks.contains (sgn pa j)) {rp fp up bp : PV}
  (r : ∀ aw,aw ∉ X.D → Ex X [((ofString "wrong"),.own aw (lW (wrongL (misK ks pa tx) i (min (i + 1) pa.cps.size)))),((ofString "rows"),.fz rp),((ofString "i"),.fz (.int i)),((ofString "free"),.fz fp),((ofString "full"),.fz up),((ofString "bits"),.fz bp),((ofString "wild"),.fz (lS wl)),((ofString "pattern"),.fz (.str pa)),((ofString "text"),.fz (.str tx))] ((forB3 (stN (bodyN (stN pwBody 9)) 16)).drop 5) Q) :
  Ex X [((ofString "rows"),.fz rp),((ofString "i"),.fz (.int i)),((ofString "free"),.fz fp),((ofString "full"),.fz up),((ofString "bits"),.fz bp),((ofString "wild"),.fz (lS wl)),((ofString "pattern"),.fz (.str pa)),((ofString "text"),.fz (.str tx))] ((forB3 (stN (bodyN (stN pwBody 9)) 16)).drop 3) Q:=by
 have hp' : pa.cps.size < 1000:=hp
 refine Ex.assignN ok (p:=lW (wrongL (misK ks pa tx) i 0)) (N.disp ok .nil rfl (by decide)) trivial (by walk_at "ld") fun aw haw => ?_
 refine Ex.forIn ok (n:=min (i + 1) pa.cps.size) (P:=fun k => .int k) (It.range1 ok (by walk_at "bn") (E.eq (congrArg PV.int (show min ((i : Int) + 1) (pa.length : Int) = ((min (i + 1) pa.cps.size : Nat) : Int) from by show min ((i : Int) + 1) (pa.cps.size : Int) = _; omega)) (E.min2 ok (by walk_at "bn") (E.add (by walk_at "en") E.cInt) (E.lenS (by walk_at "bn") (by walk_at "en") (by omega) rfl) rfl)) (by omega) rfl)
  (fun k=>[((ofString "wrong"),.own aw (lW (wrongL (misK ks pa tx) i k))),((ofString "rows"),.fz rp),((ofString "i"),.fz (.int i)),((ofString "free"),.fz fp),((ofString "full"),.fz up),((ofString "bits"),.fz bp),((ofString "wild"),.fz (lS wl)),((ofString "pattern"),.fz (.str pa)),((ofString "text"),.fz (.str tx))])
  (fun k=>[((ofString "k"),.fz (.int k)),((ofString "wrong"),.own aw (lW (wrongL (misK ks pa tx) i k))),((ofString "rows"),.fz rp),((ofString "i"),.fz (.int i)),((ofString "free"),.fz fp),((ofString "full"),.fz up),((ofString "bits"),.fz bp),((ofString "wild"),.fz (lS wl)),((ofString "pattern"),.fz (.str pa)),((ofString "text"),.fz (.str tx))]) ?_ (fun k zz=>As.name ok (by walk_at "ld")) (fun k hk => ?_) (r aw haw)
 ·show ∀ x b,_ → _
  walk_at "sb"
 have hk1 : k < i + 1:=by omega
 have hk2 : k < pa.cps.size:=by omega
 refine ex_assignCompL (lo:=1) ok sc [((ofString "k"),.fz (.int k)),((ofString "i"),.fz (.int i)),((ofString "wild"),.fz (lS wl)),((ofString "pattern"),.fz (.str pa)),((ofString "text"),.fz (.str tx))] (n:=k + 1) (P:=fun j => .int j) (fun j=>misK ks pa tx j (i - k + j)) (fun j => .int j) (by kernel_rfl!) (by kernel_rfl!) (cctx_cons (b := .fz (.int k)) (by walk_at "lk") (by kernel_rfl!) rfl (cctx_cons (b := .fz (.int i)) (by walk_at "lk") (by kernel_rfl!) rfl (cctx_cons (b := .fz (lS wl)) (by walk_at "lk") (by kernel_rfl!) rfl (cctx_cons (b := .fz (.str pa)) (by walk_at "lk") (by kernel_rfl!) rfl (cctx_cons (b := .fz (.str tx)) (by walk_at "lk") (by kernel_rfl!) rfl cctx_nil))))) (It.toC (It.range1 ok (by walk_at "bn") (E.add (i:=(k : Int)) (by walk_at "en") E.cInt) (by omega) rfl)) (by omega) (fun X' ok' sc' top j hj=>⟨[((ofString "j"),.fz (.int j)),((ofString "k"),.fz (.int k)),((ofString "i"),.fz (.int i)),((ofString "wild"),.fz (lS wl)),((ofString "pattern"),.fz (.str pa)),((ofString "text"),.fz (.str tx))], ?d1, ?d2,AsL.name ok' ((sc'.kind _).trans (by kernel_rfl!)),TB.one ?t,fun zz=>by walk_at "en"⟩) (fun i zz zz=>trivial) ((sc.kind _).trans (by kernel_rfl!)) (sw_compW ok.e ((sc.kind _).trans (by kernel_rfl!)) rfl (by kernel_rfl!)) fun ao hao => ?rest
 case d1 =>
  intro z b e
  simp only [List.lookup_cons] at e
  repeat' split at e
  all_goals first | (cases e; rfl) | simp at e
 case d2=>walk_at "sb"
 case t =>
  have hj2 : j < pa.cps.size:=by omega
  have pj : ∀ {p1 p2 p3 : Pos},E X' [((ofString "j"),.fz (.int j)),((ofString "k"),.fz (.int k)),((ofString "i"),.fz (.int i)),((ofString "wild"),.fz (lS wl)),((ofString "pattern"),.fz (.str pa)),((ofString "text"),.fz (.str tx))] (.Subscript (.Name (ofString "pattern") p1) (.Name (ofString "j") p2) p3) (.str (sgn pa j)):=fun {p1 p2 p3}=>E.subS (by walk_at "en") (by walk_at "en") hj2 (by omega)
  exact B.eq (x := !decide (sgn pa j ∈ wl) && ((sgn pa j != sgn tx (i - k + j)) && true)) (by rw [hw j hj2,Bool.and_true]; rfl) (B.all (B.and (B.compare pj (by walk_at "en") (Cmp.notInLS ok' (.list _))) fun zz=>B.and (B.compare pj (E.subS (k:=i - k + j) (by walk_at "en") (E.eq (congrArg PV.int (show (i : Int) - (k : Int) + (j : Int) = ((i - k + j : Nat) : Int) from by omega)) (E.add (E.sub (by walk_at "en") (by walk_at "en")) (by walk_at "en"))) (by omega) (by omega)) Cmp.neS) fun zz=>B.and0))
 case rest =>
  refine Ex.freeze ok hao (x:=(ofString "off")) (a:=ao) (by walk_at "lk") ?_
  have wl2 : (wrongL (misK ks pa tx) i k).length = k:=by unfold wrongL; rw [List.length_map,List.length_range]
  have fl : (((List.range (k + 1)).filter fun j=>misK ks pa tx j (i - k + j)).map fun j=>PV.int ((j : Nat) : Int)).length ≤ k + 1:=by
   rw [List.length_map]; exact Nat.le_trans (List.length_filter_le _ _) (by rw [List.length_range]; exact Nat.le_refl _)
  refine Ex.append ok (x:=(ofString "wrong")) (a:=aw) (xs:=(wrongL (misK ks pa tx) i k).map .int) (p := .int (wrong (misK ks pa tx) i k)) (by walk_at "lk") (E.eq (by rw [List.length_map]; rfl) (E.len ok (by walk_at "bn") (by walk_at "en") (.list (((List.range (k + 1)).filter fun j=>misK ks pa tx j (i - k + j)).map fun j=>PV.int ((j : Nat) : Int))) (by omega) rfl)) trivial (by rw [List.length_map,wl2]; omega) rfl (by decide +kernel) (fun Q' h t=>TP.Call_method t) ?_
  rw [← wrongL_succ]
  refine Ex.nil ?_
  show ∀ x b,_ → _
  walk_at "sb"
end Mine
end
section
namespace Mine
theorem pow_sum (l : List Nat) : (l.map fun (j : Nat)=>((2 ^ j : Nat) : Int)).sum = ((l.map (2 ^ ·)).sum : Nat):=by
 rw [← sum_cast,List.map_map]; rfl
theorem law_k {tx pa : Str} (hp : pa.length < 1000) (ht : tx.cps.size < 1000) {X : Fm} (ok : FmOk X) (sc : Sc X fdOf_law.scope (cellNames fdOf_law.scope.names [])) (cnew : ∀ x c,X.env.cells.lookup x = some c → X.h₀.get? c = none) (hK : X.K = frag X.w.params) {Q : Out → Prop} {ks : List Str} {i : Nat} (hi : i < tx.cps.size) {ip fp up bp wp : PV} {aw : Addr} (haw : aw ∉ X.D)
  (r : Ex X [((ofString "rows"),.fz (lW (rowsL (misK ks pa tx) pa.cps.size (i + 1)))),((ofString "free"),.fz fp),((ofString "full"),.fz up),((ofString "bits"),.fz bp),((ofString "wild"),.fz wp),((ofString "pattern"),.fz (.str pa)),((ofString "text"),.fz (.str tx))] [] Q) :
  Ex X [((ofString "wrong"),.own aw (lW (wrongL (misK ks pa tx) i (min (i + 1) pa.cps.size)))),((ofString "rows"),.fz (lW (rowsL (misK ks pa tx) pa.cps.size (i + 1)))),((ofString "i"),.fz ip),((ofString "free"),.fz fp),((ofString "full"),.fz up),((ofString "bits"),.fz bp),((ofString "wild"),.fz wp),((ofString "pattern"),.fz (.str pa)),((ofString "text"),.fz (.str tx))] ((forB3 (stN (bodyN (stN pwBody 9)) 16)).drop 5) Q:=by
 have hp' : pa.cps.size < 1000:=hp
 have b1 : (Builtin.Int.intBits ((1 : Nat) : Int) : Int) ≤ 64:=by decide +kernel
 have wl2 : (wrongL (misK ks pa tx) i (min (i + 1) pa.cps.size)).length = min (i + 1) pa.cps.size:=by unfold wrongL; rw [List.length_map,List.length_range]
 have wl3 : ((wrongL (misK ks pa tx) i (min (i + 1) pa.cps.size)).map PV.int).length = min (i + 1) pa.cps.size:=by rw [List.length_map]; exact wl2
 refine Ex.freeze ok haw (x:=(ofString "wrong")) (a:=aw) (by walk_at "lk") ?_
 refine Ex.forIn ok (n:=3) (P:=fun d => .int d) (It.range1 ok (by walk_at "bn") E.cInt (by decide) rfl)
  (fun d=>[((ofString "wrong"),.fz (lW (wrongL (misK ks pa tx) i (min (i + 1) pa.cps.size)))),((ofString "rows"),.fz (lW (rowsL (misK ks pa tx) pa.cps.size (i + 1)))),((ofString "free"),.fz fp),((ofString "full"),.fz up),((ofString "bits"),.fz bp),((ofString "wild"),.fz wp),((ofString "pattern"),.fz (.str pa)),((ofString "text"),.fz (.str tx))])
  (fun d=>[((ofString "d"),.fz (.int d)),((ofString "wrong"),.fz (lW (wrongL (misK ks pa tx) i (min (i + 1) pa.cps.size)))),((ofString "rows"),.fz (lW (rowsL (misK ks pa tx) pa.cps.size (i + 1)))),((ofString "free"),.fz fp),((ofString "full"),.fz up),((ofString "bits"),.fz bp),((ofString "wild"),.fz wp),((ofString "pattern"),.fz (.str pa)),((ofString "text"),.fz (.str tx))]) ?_ (fun d zz=>As.name ok (by walk_at "ld")) (fun d hd => ?_) (Ex.weak ?_ r)
 ·show ∀ x b,_ → _
  walk_at "sb"
 ·have er : ((rowsL (misK ks pa tx) pa.cps.size (i + 1)).map PV.int)[((d : Nat) : Int).toNat]? = some (.int (rowD (misK ks pa tx) pa.cps.size d i)):=by
   match d,hd with
   | 0,_=>rfl
   | 1,_=>rfl
   | 2,_=>rfl
  refine Ex.ite (c:=false) (B.eq (x:=((rowD (misK ks pa tx) pa.cps.size d i : Nat) : Int) != ((rowD (misK ks pa tx) pa.cps.size d i : Nat) : Int)) (by walk_at "ms") (B.compare (E.subL ok (by walk_at "en") (by walk_at "en") (.list _) (by omega) (by omega) er) (E.eq (x := .int (((List.range (min (i + 1) pa.cps.size)).filter fun k=>decide (wrong (misK ks pa tx) i k ≤ d)).map fun (k : Nat)=>((2 ^ k : Nat) : Int)).sum) (by rw [pow_sum]; rfl) (E.sum ok (by walk_at "bn") (E.ofN (N.eq (x := .list (((List.range (min (i + 1) pa.cps.size)).filter fun k=>decide (wrong (misK ks pa tx) i k ≤ d)).map fun k=>PV.int ((2 ^ k : Nat) : Int))) (by rw [List.map_map]; rfl) (N.comp ok sc [((ofString "d"),.fz (.int d)),((ofString "wrong"),.fz (lW (wrongL (misK ks pa tx) i (min (i + 1) pa.cps.size))))] (n:=min (i + 1) pa.cps.size) (P:=fun k => .int k) (fun k=>decide (wrong (misK ks pa tx) i k ≤ d)) (fun k => .int ((2 ^ k : Nat) : Int)) (by kernel_rfl!) (by kernel_rfl!) (cctx_cons (b := .fz (.int d)) (by walk_at "lk") (by kernel_rfl!) rfl (cctx_cons (b := .fz (lW (wrongL (misK ks pa tx) i (min (i + 1) pa.cps.size)))) (by walk_at "lk") (by kernel_rfl!) rfl cctx_nil)) (It.toC (It.range1 ok (by walk_at "bn") (E.eq (by rw [wl3]) (E.len ok (by walk_at "bn") (by walk_at "en") (.list ((wrongL (misK ks pa tx) i (min (i + 1) pa.cps.size)).map .int)) (by rw [wl3]; omega) rfl)) (by omega) rfl)) (by omega) (fun X' ok' sc' top k hk=>⟨[((ofString "k"),.fz (.int k)),((ofString "d"),.fz (.int d)),((ofString "wrong"),.fz (lW (wrongL (misK ks pa tx) i (min (i + 1) pa.cps.size))))], ?d1, ?d2,AsL.name ok' ((sc'.kind _).trans (by kernel_rfl!)),TB.one ?t,fun zz => ?v⟩) (fun i zz zz=>trivial)))) (.list _) rfl)) Cmp.neI)) (fun h=>by cases h) fun zz=>Ex.nil (Ex.nil ?w)
  case d1 =>
   intro z b e
   simp only [List.lookup_cons] at e
   repeat' split at e
   all_goals first | (cases e; rfl) | simp at e
  case d2=>walk_at "sb"
  case t =>
   refine B.eq (x:=decide (((wrong (misK ks pa tx) i k : Nat) : Int) ≤ (d : Int))) (decide_eq_decide.mpr Int.ofNat_le) (B.compare (E.subL ok' (xs:=(wrongL (misK ks pa tx) i (min (i + 1) pa.cps.size)).map .int) (i:=(k : Int)) (by walk_at "en") (by walk_at "en") (.list _) (by omega) (by omega) ?_) (by walk_at "en") Cmp.le)
   rw [Int.toNat_natCast,wrongL,List.map_map,List.getElem?_map,List.getElem?_range hk]; rfl
  case v =>
   exact E.eq (by rw [Nat.shiftLeft_eq,Nat.one_mul]) (E.shlN (i:=1) (n:=k) E.cInt (by walk_at "en") (by omega))
  case w =>
   show ∀ x b,_ → _
   walk_at "sb"
 ·show ∀ x b,_ → _
  walk_at "sb"
end Mine
end
section
namespace Mine
theorem law_l {tx pa : Str} {wl : List Str} (hp : pa.length < 1000) (ht : tx.cps.size < 1000) {X : Fm} (ok : FmOk X) (sc : Sc X fdOf_law.scope (cellNames fdOf_law.scope.names [])) (cnew : ∀ x c,X.env.cells.lookup x = some c → X.h₀.get? c = none) (hK : X.K = frag X.w.params) {Q : Out → Prop} {ks : List Str} (hw : ∀ j,j < pa.cps.size → (!decide (sgn pa j ∈ wl)) = ks.contains (sgn pa j))
  (r : ∀ Γ',Q (.ret (.bool true) Γ')) :
  Ex X [((ofString "rows"),.fz (lW [0,0,0])),((ofString "free"),.fz (.int (freeK ks pa))),((ofString "full"),.fz (.int (fullK pa))),((ofString "bits"),.fz (bitO X ks pa)),((ofString "wild"),.fz (lS wl)),((ofString "pattern"),.fz (.str pa)),((ofString "text"),.fz (.str tx))] ((bodyN (stN pwBody 9)).drop 16) Q:=by
 have hp' : pa.cps.size < 1000:=hp
 have b1 : (Builtin.Int.intBits ((1 : Nat) : Int) : Int) ≤ 64:=by decide +kernel
 refine Ex.forIn ok (n:=tx.cps.size) (P:=fun i => .int i) (It.range1 ok (by walk_at "bn") (E.lenS (by walk_at "bn") (by walk_at "en") (show tx.cps.size < 2 ^ 62 by omega) rfl) (by omega) rfl)
  (fun i=>[((ofString "rows"),.fz (lW (rowsL (misK ks pa tx) pa.cps.size i))),((ofString "free"),.fz (.int (freeK ks pa))),((ofString "full"),.fz (.int (fullK pa))),((ofString "bits"),.fz (bitO X ks pa)),((ofString "wild"),.fz (lS wl)),((ofString "pattern"),.fz (.str pa)),((ofString "text"),.fz (.str tx))])
  (fun i=>[((ofString "i"),.fz (.int i)),((ofString "rows"),.fz (lW (rowsL (misK ks pa tx) pa.cps.size i))),((ofString "free"),.fz (.int (freeK ks pa))),((ofString "full"),.fz (.int (fullK pa))),((ofString "bits"),.fz (bitO X ks pa)),((ofString "wild"),.fz (lS wl)),((ofString "pattern"),.fz (.str pa)),((ofString "text"),.fz (.str tx))]) (fun x b h=>h) (fun i zz=>As.name ok (by walk_at "ld")) (fun i hi => ?turn) ?fin
 case turn =>
  exact law_i hp ht ok sc cnew hK hi (law_j hp ht ok sc cnew hK hi hw fun aw haw=>law_k hp ht ok sc cnew hK hi haw (Ex.nil fun x b h=>h))
 case fin =>
  refine Ex.ret (p := .bool true) (E.eq (x := .bool (((freeK ks pa : Nat) : Int) == ((freeK ks pa : Nat) : Int))) (by walk_at "ms") (E.compare (by walk_at "en") (E.eq (x := .int (((List.range pa.cps.size).filter fun j => !ks.contains (sgn pa j)).map fun (k : Nat)=>((2 ^ k : Nat) : Int)).sum) (by rw [pow_sum]; rfl) (E.sum ok (by walk_at "bn") (E.ofN (N.eq (x := .list (((List.range pa.cps.size).filter fun j => !ks.contains (sgn pa j)).map fun k=>PV.int ((2 ^ k : Nat) : Int))) (by rw [List.map_map]; rfl) (N.comp ok sc [((ofString "pattern"),.fz (.str pa)),((ofString "wild"),.fz (lS wl))] (n:=pa.cps.size) (P:=fun k => .int k) (fun j => !ks.contains (sgn pa j)) (fun k => .int ((2 ^ k : Nat) : Int)) (by kernel_rfl!) (by kernel_rfl!) (cctx_cons (b := .fz (.str pa)) (by walk_at "lk") (by kernel_rfl!) rfl (cctx_cons (b := .fz (lS wl)) (by walk_at "lk") (by kernel_rfl!) rfl cctx_nil)) (It.toC (It.range1 ok (by walk_at "bn") (E.lenS (by walk_at "bn") (by walk_at "en") (show pa.cps.size < 2 ^ 62 by omega) rfl) (by omega) rfl)) (by omega) (fun X' ok' sc' top j hj=>⟨[((ofString "j"),.fz (.int j)),((ofString "pattern"),.fz (.str pa)),((ofString "wild"),.fz (lS wl))], ?d1, ?d2,AsL.name ok' ((sc'.kind _).trans (by kernel_rfl!)),TB.one ?t,fun zz => ?v⟩) (fun i zz zz=>trivial)))) (.list _) rfl)) Cmp.eqI)) trivial (r _)
  case d1 =>
   intro z b e
   simp only [List.lookup_cons] at e
   repeat' split at e
   all_goals first | (cases e; rfl) | simp at e
  case d2=>walk_at "sb"
  case t =>
   exact B.eq (x:=decide (sgn pa j ∈ wl)) (by rw [← hw j hj,Bool.not_not]) (B.compare (E.subS (by walk_at "en") (by walk_at "en") hj (by omega)) (by walk_at "en") (Cmp.inLS ok' (.list _)))
  case v =>
   exact E.eq (by rw [Nat.shiftLeft_eq,Nat.one_mul]) (E.shlN (i:=1) (n:=j) E.cInt (by walk_at "en") (by omega))
end Mine
end
section
namespace Mine
theorem hw_of {pa : Str} {jk ks : List Str} {on : Bool} (hq : ∀ k,(k ∈ sgns pa ∧ k ∉ jk ∧ popF (sgns pa) on k = true) ↔ k ∈ often3 jk pa on) (hk : ∀ k,k ∈ ks ↔ keptS jk pa on k = true) : ∀ j,j < pa.cps.size → (!decide (sgn pa j ∈ jk ++ often3 jk pa on)) = ks.contains (sgn pa j):=fun j hj=>by
 have hm : sgn pa j ∈ sgns pa:=List.mem_iff_getElem?.mpr ⟨j,sgns_get hj⟩
 rw [List.contains_eq_mem]
 generalize sgn pa j = k at *
 have h1:=hq k
 have h2:=hk k
 unfold keptS jkB at h2
 rw [Bool.eq_iff_iff,Bool.not_eq_true',decide_eq_false_iff_not,decide_eq_true_eq,h2,List.mem_append,← h1]
 by_cases c : k ∈ jk
 ·simp [c]
 ·cases popF (sgns pa) on k <;> simp [c,hm]
theorem law_all {script : List Int} (hs : script.length ≤ 63) {X : Fm} (ok : FmOk X) (sc : Sc X fdOf_law.scope (cellNames fdOf_law.scope.names [])) (cnew : ∀ x c,X.env.cells.lookup x = some c → X.h₀.get? c = none) (hK : X.K = frag X.w.params) (hrd : 50 ≤ X.rd) (hcode : X.env.code = .ref 260) {Q : Out → Prop}
  (ht : (tx3 (first3 script) (nums3 script)).cps.size < 1000) (hp : (patS (first3 script) (nums3 script)).length < 1000) (hj : (junk3 (first3 script)).length ≤ 2)
  (hin : ∀ k ∈ junk3 (first3 script),inP (patS (first3 script) (nums3 script)) k = decide (k ∈ sgns (patS (first3 script) (nums3 script))))
  (hq : ∀ k,(k ∈ sgns (patS (first3 script) (nums3 script)) ∧ k ∉ junk3 (first3 script) ∧ popF (sgns (patS (first3 script) (nums3 script))) (on3 (first3 script)) k = true) ↔ k ∈ often3 (junk3 (first3 script)) (patS (first3 script) (nums3 script)) (on3 (first3 script)))
  (r : ∀ Γ',Q (.ret (.bool true) Γ')) : Ex X [((ofString "script"),.gh (lW script) 258 Pl0)] (bodyN (stN pwBody 9)) Q:=by
 refine law_a hs ok sc cnew hK (by omega) ?_
 generalize first3 script = f at *
 generalize tx3 f (nums3 script) = tx at *
 generalize patS f (nums3 script) = pa at *
 refine law_b ok sc cnew hK hcode fun tp stp itp htp => ?_
 generalize junk3 f = jk at *
 generalize on3 f = on at *
 refine law_c ht hp ok sc cnew hK hrd stp htp (law_d1 itp ok sc hK (law_d2 hj hin hq ok sc hK (law_d3 ok sc cnew hK (law_e hp ok sc cnew hK fun ks nd hk => ?_))))
 have len : ks.length ≤ 1000:=by
  have h1 : ks.length ≤ (sgns pa).length:=(nodup_len nd fun k h=>by
   have:=(hk k).mp h
   unfold keptS at this
   rw [Bool.and_eq_true,decide_eq_true_eq] at this
   exact this.1)
  rw [sgns_len] at h1
  have : pa.cps.size < 1000:=hp
  omega
 exact law_f hp (by omega) ok sc cnew hK (law_g hp ok sc cnew hK nd (fun k h=>(hk k).mp h) (law_h hp ok sc cnew hK nd len (law_l hp ht ok sc cnew hK (hw_of hq hk) r)))
end Mine
end
section
namespace Mine
theorem sgns_map (p : Str) : sgns p = p.cps.toList.map fun c=>⟨#[c]⟩:=by
 refine List.ext_getElem? fun i => ?_
 rw [List.getElem?_map]
 by_cases h : i < p.cps.size
 ·rw [sgns_get h,Array.getElem?_toList,Array.getElem?_eq_getElem h]
  simp [sgn,h]
 ·have h1 : (sgns p)[i]? = none:=by rw [List.getElem?_eq_none_iff,sgns_len]; omega
  have h2 : p.cps.toList[i]? = none:=by rw [List.getElem?_eq_none_iff,Array.length_toList]; omega
  rw [h1,h2]; rfl
theorem one_inj {c d : Nat} (h : (⟨#[c]⟩ : Str) = ⟨#[d]⟩) : c = d:=by
 have h1 : #[c] = #[d]:=congrArg Str.cps h
 simpa using h1
theorem inP_one (p : Str) (c : Nat) : inP p ⟨#[c]⟩ = decide ((⟨#[c]⟩ : Str) ∈ sgns p):=by
 refine (StrLaws.found_one p c).trans ?_
 rw [sgns_map]
 refine decide_eq_decide.mpr ⟨fun h=>List.mem_map.mpr ⟨c,h,rfl⟩,fun h => ?_⟩
 obtain ⟨d,hd,e⟩:=List.mem_map.mp h
 exact one_inj e ▸ hd
theorem junk3_cases (f : Int) : junk3 f = [qS] ∨ junk3 f = [] ∨ junk3 f = [qS,bS]:=by
 obtain ⟨i,e,hi⟩:=fmodN (f.fdiv 15) (n:=3) (by decide)
 rw [show ((3 : Nat) : Int) = 3 from rfl] at e
 unfold junk3
 rw [e,Int.toNat_natCast]
 rcases (by omega : i = 0 ∨ i = 1 ∨ i = 2) with rfl | rfl | rfl
 ·exact .inl rfl
 ·exact .inr (.inl rfl)
 ·exact .inr (.inr rfl)
theorem qS_one : qS = ⟨#[63]⟩:=by decide +kernel
theorem bS_one : bS = ⟨#[98]⟩:=by decide +kernel
theorem junk3_len (f : Int) : (junk3 f).length ≤ 2:=by
 rcases junk3_cases f with e | e | e <;> rw [e] <;> decide
theorem hin_ok (f : Int) (p : Str) : ∀ k ∈ junk3 f,inP p k = decide (k ∈ sgns p):=by
 rcases junk3_cases f with e | e | e <;> rw [e] <;> intro k hk
 ·obtain rfl:=List.mem_singleton.mp hk
  rw [qS_one]; exact inP_one p _
 ·cases hk
 ·cases hk with
  | head=>rw [qS_one]; exact inP_one p _
  | tail _ hk =>
   obtain rfl:=List.mem_singleton.mp hk
   rw [bS_one]; exact inP_one p _
theorem placesK_cntS : ∀ (b : List Str) (k : Str) (i : Nat),(placesK b k i).length = b.count k
 | [],_,_=>rfl
 | n :: r,k,i=>by
  rw [placesK,List.count_cons]
  by_cases c : n = k
  ·subst c; simp [placesK_cntS r]
  ·have : (n == k) = false:=by simpa using c
   rw [if_neg c,this,placesK_cntS r]; simp
theorem atS_cnt (x p : Str) : (atS x p).length = (sgns p).count x:=by
 rw [List.count,sgns,List.countP_map,List.countP_eq_length_filter]
 rfl
theorem popF_eqS {p k : Str} {on : Bool} : popF (sgns p) on k = popS k p on:=by
 unfold popF popS
 rw [placesK_cntS,atS_cnt,sgns_len,Bool.and_assoc]
 congr 1
 rw [Bool.eq_iff_iff,Bool.and_eq_true,Bool.and_eq_true,decide_eq_true_eq,decide_eq_true_eq,decide_eq_true_eq,decide_eq_true_eq]
 show 200 ≤ p.cps.size ∧ _ ↔ (200 : Int) ≤ p.cps.size ∧ (p.cps.size : Int) < _
 generalize (sgns p).count k = c
 generalize p.cps.size = n
 constructor
 ·rintro ⟨h1,h2⟩
  exact ⟨by omega,by omega⟩
 ·rintro ⟨h1,h2⟩
  exact ⟨by omega,by omega⟩
theorem sgns_cat (a b : Str) : sgns (a ++ b) = sgns a ++ sgns b:=by
 rw [sgns_map,sgns_map,sgns_map,← List.map_append]
 show ((a.cps ++ b.cps).toList).map _ = _
 rw [Array.toList_append]
theorem sgT_mem (f t : Int) : ∃ i,i < abcS.cps.size ∧ sgT f t = sgn abcS i:=by
 obtain ⟨k3,e3,hk3⟩:=fmodN f (n:=3) (by decide)
 rw [show ((3 : Nat) : Int) = 3 from rfl] at e3
 obtain ⟨k,ek,hk⟩:=fmodN (t.fdiv 3) (n:=3 + k3) (by omega)
 refine ⟨k,by rw [abcS_len]; omega, ?_⟩
 rw [sgT,e3,show ((3 : Int) + (k3 : Int)) = ((3 + k3 : Nat) : Int) by rw [Int.natCast_add]; rfl,ek,Int.toNat_natCast]
theorem sgns_one (c : Nat) : sgns ⟨#[c]⟩ = [⟨#[c]⟩]:=by rw [sgns_map]; rfl
theorem txt_mem {c f : Int} {ns : List Int} : ∀ {i : Nat} {k : Str},k ∈ sgns (txtN c f ns i) → ∃ j,j < abcS.cps.size ∧ k = sgn abcS j
 | 0,k,h=>by
  rw [sgns_map,show txtN c f ns 0 = ⟨#[]⟩ from by show ofString "" = _; decide +kernel] at h
  simp at h
 | i + 1,k,h=>by
  rw [show txtN c f ns (i + 1) = (if ((ns.getD i 0).fmod 3 != c) = true then txtN c f ns i ++ sgT f (ns.getD i 0) else txtN c f ns i) from rfl] at h
  split at h
  ·rw [sgns_cat,List.mem_append] at h
   rcases h with h | h
   ·exact txt_mem h
   ·obtain ⟨j,hj,e⟩:=sgT_mem f (ns.getD i 0)
    rw [e] at h
    have : k = sgn abcS j:=by
     have h2 : sgns (sgn abcS j) = [sgn abcS j]:=sgns_one _
     rw [h2] at h
     exact List.mem_singleton.mp h
    exact ⟨j,hj,this⟩
  ·exact txt_mem h
theorem fill_nodup (n : Nat) : (sgns (fillS n)).Nodup:=by
 rw [sgns_map,fillS]
 refine List.Pairwise.map _ (fun a b (h : a ≠ b)=>fun e=>h (one_inj e)) ?_
 refine List.Pairwise.map _ (fun a b (h : a ≠ b) => ?_) List.nodup_range
 omega
theorem hq_ok (f : Int) (ns : List Int) (jk : List Str) (on : Bool) : ∀ k,(k ∈ sgns (patS f ns) ∧ k ∉ jk ∧ popF (sgns (patS f ns)) on k = true) ↔ k ∈ often3 jk (patS f ns) on:=fun k=>by
 have lots : popF (sgns (patS f ns)) on k = true → 1 < (sgns (patS f ns)).count k:=fun h=>by
  unfold popF at h
  rw [placesK_cntS,Bool.and_eq_true,Bool.and_eq_true,decide_eq_true_eq,decide_eq_true_eq] at h
  omega
 unfold often3
 rw [List.mem_map]
 constructor
 ·rintro ⟨h1,h2,h3⟩
  have hk : ∃ j,j < abcS.cps.size ∧ k = sgn abcS j:=by
   have:=lots h3
   rw [patS,sgns_cat,List.count_append] at this
   by_cases c : k ∈ sgns (txtN 2 f ns ns.length)
   ·exact txt_mem c
   ·rw [List.count_eq_zero.mpr c] at this
    have:=List.nodup_iff_count.mp (fill_nodup (size3 f - (txtN 2 f ns ns.length).length).toNat) k
    omega
  obtain ⟨j,hj,e⟩:=hk
  refine ⟨j,List.mem_filter.mpr ⟨List.mem_range.mpr hj, ?_⟩,e.symm⟩
  rw [← e,ofB,← popF_eqS,h3]
  simp [h2]
 ·rintro ⟨i,hi,rfl⟩
  rw [List.mem_filter,ofB,Bool.and_eq_true,Bool.not_eq_true',decide_eq_false_iff_not,← popF_eqS] at hi
  have:=lots hi.2.2
  exact ⟨List.count_pos_iff.mp (by omega),hi.2.1,hi.2.2⟩
theorem law_run {prog : Program} {w : World} {script : List Int} (hs : script.length ≤ 63) {A : Around} {h : Heap} {F : Store} {vs : List Value} (hh : A.handled = none) (room : A.depth + 21 + 60 < recursionLimit) (units : A.units + 30 + 10 * 60 < cLine)
  (G : ∀ h',Sub [258] h h' → Gr (frag w.params) h') (std : ∀ a o,F a o → h.get? a = some o ∧ a ∉ [258]) (hl : h.get? 258 = some (o258 w.params)) (args : Args prog w F [(258,o258 w.params)] vs [.gh (lW script) 258 Pl0]) :
  ∀ s : Shared,s.heap = h → AllBare s.gens → codeAny (model prog w) A (.call (.ref at_law) ⟨vs,[]⟩) (PoC s fun v h'=>Ret prog w F h [258] (fun p zz=>p = .bool true) v h' ∧ ∀ q ∈ [258],∃ o,h'.get? q = some o ∧ IsPl o) s:=by
 obtain ⟨v1,rfl⟩ : ∃ v1,vs = [v1]:=by
  cases args with | gh _ _ _ _ _ a=>cases a; exact ⟨_,rfl⟩
 refine fn_runC (lD:=[(258,o258 w.params)]) (ns:=[(ofString "script")]) 60 [258] (fun q hq=>by rw [List.mem_singleton.mp hq]; exact ⟨_,.head _,#[],rfl,trivial,rfl⟩) (fun p zz=>p = .bool true) (fn_law3 w.params) hh room units G std (fun p hp=>by rw [List.mem_singleton.mp hp]; exact hl) (by walk_at "ms") (by kernel_rfl!) (by decide +kernel) rfl rfl (by kernel_rfl!) (by kernel_rfl!) args ?_
 intro X ok sc cnew e1 e2 e3 e4 e5 e6 hcode
 have hK : X.K = frag X.w.params:=by rw [e3,e2]
 have hrd : 50 ≤ X.rd:=by omega
 have hcode : X.env.code = .ref 260:=hcode
 show Ex X [((ofString "script"),.gh (lW script) 258 Pl0)] _ _
 have hn2:=nums3_len hs
 refine law_all hs ok sc cnew hK hrd hcode ?_ ?_ (junk3_len _) (hin_ok _ _) (hq_ok _ _ _ _) fun Γ=>rfl
 ·have h1:=txtN_len 1 (first3 script) (nums3 script) (nums3 script).length
  have h2 : (txtN 1 (first3 script) (nums3 script) (nums3 script).length).cps.size ≤ (nums3 script).length:=h1
  show (txtN 1 (first3 script) (nums3 script) (nums3 script).length).cps.size < 1000
  omega
 ·rw [patS,cat_len,fillS_len]
  have h1:=txtN_len 2 (first3 script) (nums3 script) (nums3 script).length
  have h2:=size3_le (first3 script)
  omega
end Mine
end
section
namespace Mine
theorem Gr.off {K : Frag} {d : Addr} {h h' : Heap} (G : Gr K h) (hK : K.lookup d = none) (h1 : mainGlobals ≠ d) (h2 : builtinsNs ≠ d) (h3 : cStatics ≠ d) (sb : Sub [d] h h') : Gr K h':=by
 have ex : Heap.ExtBut d h h':=fun b o nb e=>sb b o (by simpa using nb) e
 exact ⟨fun a o e=>sb a o (fun z=>by rw [List.mem_singleton.mp z,hK] at e; cases e) (G.k a o e),G.g.imp fun mg n=>n.extBut ex h1,G.b.imp fun mb n=>⟨n.1.extBut ex h2,n.2⟩,G.nolimit.extBut ex h3⟩
noncomputable def dLaw : DefRec:=⟨ofString "law",argsN (stN pwBody 9),bodyN (stN pwBody 9),scopeN (stN pwBody 9),match stN pwBody 9 with | .FunctionDef _ _ _ _ _ _ _ _ _ p=>p | _=>⟨0,0,0,0⟩⟩
set_option tactic.hygienic true in
theorem fin_try : PySem.Challenge.rw_dm0052_03.Holds:=by
 w_on
 refine holds_law said fun said => ?_
 refine holds_open (q:=viewP) (loose:=looseN) (Xt:=fun s=>xlAt viewP [] s && recOk [] s) (XP:=XL viewP []) (Yf:=Hook.obs (kHook fragL fragAtL fragAllL)) (Ya:=Hook.val (kHook fragL fragAtL fragAllL)) (YP:=Hook.says (kHook fragL fragAtL fragAllL)) (d:=dLaw) (kwd:=[]) (N:=4470) ?hl (Hook.of (kHook fragL fragAtL fragAllL)) (Hook.keeps (kHook fragL fragAtL fragAllL)) (fun s e=>xl_of s (Bool.and_eq_true_iff.mp e).1) XL.keeps (by kernel_rfl!) (by kernel_rfl!) (by kernel_rfl!) (fun s e=>recFacts_of (Bool.and_eq_true_iff.mp e).2) (by rfl) (by first | assumption | decide +kernel) (by decide +kernel) ⟨rfl,rfl,rfl,rfl,rfl,by decide +kernel⟩ ?hw ?hc
 case hl=>exact left
 case hw=>w_witness2
 case hc =>
  intro w s₀ s₁ mg mb G Y fa o pm cd doc dV kV ho hd hcd hD hmg hg args vals as hpre hlay hrd hwl hlo
  have KL : (fragL w.params).In s₁.heap:=kIn_of Y
  have KX : (frag w.params).In s₁.heap:=fun a o e=>KL a o (by rw [fragL,List.lookup_append,e]; rfl)
  have g258 : s₁.heap.get? 258 = some (o258 w.params):=KL 258 _ (by kernel_rfl!)
  refine Ground.open G ?_
  intro T B D TE TW
  wrow_args hpre hlay hrd hwl hlo
  rename_i nums _ _ _ _ _ _ _ la vsl _ hLl _ _ _ hI _ hc _
  have hfa : fa = at_law:=by
   have hv : nsIn (frag w.params) mainGlobals (ofString "law") = some (some (.ref at_law)):=by kernel_rfl!
   have h1 : mg (ofString "law") = some (.ref at_law):=mg_of KX T.g hv
   have h2 : mg (ofString "law") = some (.ref fa):=hmg
   rw [h1] at h2
   cases h2
   rfl
  have GG : Gr (frag w.params) s₁.heap:=⟨KX,⟨mg,T.g⟩,⟨mb,T.b,T.builtins⟩,T.nolimit⟩
  have args0 : Args PySem.Challenge.rw_dm0052_03.row.prog w (fun a o=>s₁.heap.get? a = some o ∧ a ≠ 258) [(258,o258 w.params)] [.ref la] [.gh (.list (nums.map .int)) 258 Pl0] := .gh (by
   have W : Well w.params s₁.heap (Value.ref la) (ofPy (PyData.list (List.map PyData.int nums))):=by assumption
   obtain ⟨o',g1,g2,g3,g4⟩:=hLl
   generalize hwd : ofPy (PyData.list (List.map PyData.int nums)) = wd at W
   cases W with
   | @list _ vs xs e wa =>
    rw [e] at g1
    cases g1
    have g5 : vs.toArray = vsl.toArray:=by simpa using (Data.seq.inj g4).1
    have g6 : vs = vsl:=by simpa using g5
    subst g6
    exact .list ⟨e,fun z=>by
     subst z
     have c : Value.none = Value.type "list" := congrArg Obj.cls (Option.some.inj (g258.symm.trans e))
     cases c⟩ ⟨_,rfl⟩ (Reps.ints hI)
   | _=>cases hwd) (.head _) rfl (fun u z=>by cases z) (fun b hb=>by cases hb) .nil
  have LC:=law_run (prog:=PySem.Challenge.rw_dm0052_03.row.prog) (w:=w) (script:=nums) (A:=callerA) (h:=s₁.heap) (F:=fun a o=>s₁.heap.get? a = some o ∧ a ≠ 258) (by omega) (by rfl) (by decide +kernel) (by decide +kernel) (fun h' sb=>GG.off (d:=258) (by kernel_rfl!) (by decide +kernel) (by decide +kernel) (by decide +kernel) sb) (fun a o e=>⟨e.1,by simpa using e.2⟩) g258 args0
  rw [hfa]
  have LT : wpAny (model PySem.Challenge.rw_dm0052_03.row.prog w) callerA (call (.ref at_law) [.ref la]) (Po s₁ fun v h'=>(∃ o,h'.get? 258 = some o ∧ IsPl o) ∧ Ret PySem.Challenge.rw_dm0052_03.row.prog w (fun a o=>s₁.heap.get? a = some o ∧ a ≠ 258) s₁.heap [258] (fun p _=>p = .bool true) v h') (fun _ _=>False) s₁ :=
   wpAny_call (codeAny_mono (LC s₁ rfl (.of_eq hg)) (by rintro r s' ⟨v,h',tk,gs,hp,q,pls⟩; exact ⟨h',tk,gs,hp,pls 258 (.head _),q⟩))
  refine wpAny_mono LT ?_ (fun _ _ z=>z.elim)
  rintro v s' ⟨h',tk,gs,⟨_,bare⟩,⟨oP,gP,ps,_,_,rfl⟩,⟨⟨p,Γ',F',le,st,rep,rfl,_⟩,sb⟩⟩
  obtain rfl:=rep.b
  refine ⟨.inl ⟨.bool true,.bool true,[],rfl,fun _=>rfl,.bool true, ?_,fun _=>⟨.nil,by simp⟩⟩, ?_,rfl,bare⟩
  ·wrow_post
  ·have old : ∀ b o,s₁.heap.get? b = some o → b ≠ 258 → h'.get? b = some o:=fun b o e n=>sb b o (by simpa using n) e
   have ob : o258 w.params = { cls := .none,data := .fields #[] }:=rfl
   refine ⟨fun b o e => ?_,fun b o e => ?_⟩
   ·by_cases hb : b = 258
    ·subst hb
     obtain rfl:=Option.some.inj (g258.symm.trans e)
     exact .inr (.inl ⟨((codeHd_of_K (c:=260) KX (by kernel_rfl!)).tab (g258.trans (congrArg some ob))).isCodeTable,rfl,#[],ps,rfl,by rw [Array.empty_append]; exact gP⟩)
    ·exact .inl (old b o e hb)
   ·by_cases hb : b = 258
    ·exact ⟨_,hb ▸ gP⟩
    ·exact ⟨o,old b o e hb⟩
end Mine
end
theorem PySem.Challenge.cw_dm0052_03_holds : PySem.Challenge.rw_dm0052_03.Holds :=
  Mine.fin_try
