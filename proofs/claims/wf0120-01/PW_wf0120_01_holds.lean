import PyProof.Rows.All
import KE.KListMore
import Wide.FinOn
import OpenK.AllK
import Wide.All
import PySem.Challenge.RW_wf0120_01
set_option Elab.async false
set_option linter.unusedVariables false
set_option maxRecDepth 100000
set_option maxHeartbeats 0
open PySem PySem.W PySem.Calls PyProof.Rows
namespace Dom
theorem roads_app {lk : Look} {b : List Stmt} : ∀ a : List Stmt, noRoadLSs lk a = true → noRoadLSs lk b = true → noRoadLSs lk (a ++ b) = true
 | [], _, h => h
 | s :: r, h, h' => by
  have h := Bool.and_eq_true_iff.mp (show (noRoadLS lk s && noRoadLSs lk r) = true from h)
  exact look_both h.1 (roads_app r h.2 h')
theorem roads_cut {lk : Look} {l : List Stmt} (n : Nat) (h : noRoadLSs lk (l.take n) = true) (h' : noRoadLSs lk (l.drop n) = true) : noRoadLSs lk l = true := by
 have := roads_app _ h h'
 rwa [List.take_append_drop] at this
noncomputable abbrev top0 : Program := PySem.Challenge.rw_wf0120_01.row.prog
theorem reads_vars : readsOut top0 top0.main.body (Str.ofString "vars") = false := by decide +kernel
theorem reads_dir : readsOut top0 top0.main.body (Str.ofString "dir") = false := by decide +kernel
theorem reads_locals : readsOut top0 top0.main.body (Str.ofString "locals") = false := by decide +kernel
theorem bare0 : List.filter (readsOut top0 top0.main.body) [Str.ofString "vars", Str.ofString "dir", Str.ofString "locals"] = [] := by
 simp only [List.filter_cons, reads_vars, reads_dir, reads_locals, Bool.false_eq_true, if_false, List.filter_nil]
theorem roads0 : noRoadLSs { strict := !(importedModules top0.main.body).all cThrough.contains, foot := none, bare := [] } top0.main.body = true := by
 refine roads_cut 9 ?_ (roads_cut 52 ?_ (roads_cut 9 ?_ ?_))
 all_goals decide +kernel
theorem said0 : PySem.Challenge.rw_wf0120_01.wellSaid = true := by
 unfold OpenLaw.wellSaid OpenRow.wellSaid OpenRow.partSaid looksOpen
 repeat' with_reducible refine look_both ?_ ?_
 all_goals first | (rw [bare0]; exact roads0) | decide +kernel
noncomputable abbrev pr : Program := PySem.Challenge.pw_wf0120_01
noncomputable def S (l : List Nat) : Str := ⟨⟨l⟩⟩
noncomputable abbrev aE (P : Params) (x : Str) (t : Nat) (v : Value) : DictEntry := ⟨PyData.keyHash P x, .str x t, v⟩
noncomputable def body : List Stmt := behindTheImports pr
noncomputable def noStmt : Stmt := .Pass ⟨0, 0, 0, 0⟩
noncomputable def st (i : Nat) : Stmt := body.getD i noStmt
noncomputable def mts : List Stmt := match st 70 with
 | .ClassDef _ _ _ b _ _ _ _ _ _ _ => b
 | _ => []
noncomputable def mt (j : Nat) : Stmt := mts.getD j noStmt
noncomputable def noArgs : Arguments := { posonlyargs := [], args := [], vararg := none, kwonlyargs := [], kw_defaults := [], kwarg := none, defaults := [] }
noncomputable def noScope : Scope := { kind := .function, names := [], isGenerator := false, isCoroutine := false, more := [] }
noncomputable def pa : Stmt → Arguments
 | .FunctionDef _ a _ _ _ _ _ _ _ _ => a
 | _ => noArgs
noncomputable def bo : Stmt → List Stmt
 | .FunctionDef _ _ b _ _ _ _ _ _ _ => b
 | _ => []
noncomputable def sc : Stmt → Scope
 | .FunctionDef _ _ _ _ _ _ s _ _ _ => s
 | _ => noScope
noncomputable def pairsOf : Stmt → List (Int × Str)
 | .Assign _ (.Dict ks vs _) _ => (ks.zip vs).filterMap fun x => match x with
  | (some (.Constant (.int k) _ _), .Constant (.str v) _ _) => some (k, v)
  | _ => none
 | _ => []
noncomputable def b3 : List (Int × Str) := pairsOf (st 8)
noncomputable def be (t : Nat) (x : Int × Str) : DictEntry := ⟨x.1, .int x.1 t, .str x.2 (t + 1)⟩
noncomputable def bes : Nat → List (Int × Str) → List DictEntry
 | _, [] => []
 | t, x :: r => be t x :: bes (t + 3) r
noncomputable def bes2 : Nat → List (Int × Str) → List DictEntry
 | _, [] => []
 | t, x :: r => be t x :: bes2 (t + 2) r
noncomputable def dictO (l : List DictEntry) (n : Nat) : Obj := ⟨.type "dict", none, .dict ⟨l⟩ n, #[]⟩
noncomputable abbrev aT (l : List Value) : Obj := ⟨.type "tuple", none, .seq ⟨l⟩ 0, ⟨[]⟩⟩
noncomputable abbrev aF (l : List Value) : Obj := ⟨.none, none, .fields ⟨l⟩, ⟨[]⟩⟩
noncomputable abbrev aU (n q : Str) (s : Stmt) : Obj := ⟨.none, none, .func { name := n, qualname := q, params := pa s, body := .stmts (bo s), scope := sc s, globals := 0, closure := [], defaults := .none, kwdefaults := .none, doc := .none, pyModule := .none, annotations := none, code := .none, closureTuple := .none, builtins := 0 }, ⟨[]⟩⟩
noncomputable abbrev aV (n q : Str) (s : Stmt) (d k m c : Value) : Obj := ⟨.type "function", none, .func { name := n, qualname := q, params := pa s, body := .stmts (bo s), scope := sc s, globals := 3, closure := [], defaults := d, kwdefaults := k, doc := .none, pyModule := m, annotations := none, code := c, closureTuple := .none, builtins := 0 }, ⟨[]⟩⟩
noncomputable abbrev aS (x : Str) (t : Nat) : Value := .str x t
noncomputable abbrev aI (i : Int) : Value := .int i 0
noncomputable abbrev aR (a : Nat) : Value := .ref a
noncomputable abbrev aC (n q f : Str) (t a b c d l u v w z : Nat) (m : Bool) (p x y o : Value) : Obj := ⟨.type "code", none, .fields ⟨[.str n t, .str q a, .str f b, .int l 0, .int c 0, .int 0 0, .int d 0, .int 3 0, .ref u, .bool m, .int 276 0, p, .none, x, y, o, .int v 0, .int w 0, .str f z]⟩, ⟨[]⟩⟩
noncomputable abbrev aD (l : List DictEntry) (n : Nat) : Obj := ⟨.type "dict", none, .dict ⟨l⟩ n, ⟨[]⟩⟩
noncomputable abbrev aN (o : Obj) (a b : BT) : BT := .node o a b
noncomputable abbrev aL (o : Obj) : BT := .node o .nil .nil
noncomputable def zS0 : Str := S [47,99,108,97,105,109,47,99,117,116,46,112,121]
noncomputable def zS1 : Str := S [99,112,121,51,49,51,46,119,115,103,105,114,101,102,46,104,101,97,100,101,114,115]
noncomputable def zS2 : Str := S [95,95,100,111,99,95,95]
noncomputable def zS3 : Str := S [95,115,114,101]
noncomputable def zS4 : Str := S [95,119,97,108,108]
noncomputable def zS5 : Str := S [105,110,115,111,114,116,95,114,105,103,104,116]
noncomputable def zS6 : Str := S [98,105,115,101,99,116,95,114,105,103,104,116]
noncomputable def zS7 : Str := S [98,105,115,101,99,116,95,108,101,102,116]
noncomputable def zS8 : Str := S [108,97,119,95,119,102,48,49,50,48,95,48,49]
noncomputable def zS9 : Str := S [95,95,110,97,109,101,95,95]
noncomputable def zS10 : Str := S [95,95,112,97,99,107,97,103,101,95,95]
noncomputable def zS11 : Str := S [95,95,108,111,97,100,101,114,95,95]
noncomputable def zS12 : Str := S [95,95,115,112,101,99,95,95]
noncomputable def zS13 : Str := S [105,110,95,116,97,98,108,101,95,98,49]
noncomputable def zS14 : Str := S [115,101,108,102]
noncomputable def zS15 : Str := S [109,97,112,95,116,97,98,108,101,95,98,51]
noncomputable def zS16 : Str := S [95,95,97,110,110,111,116,97,116,105,111,110,115,95,95]
noncomputable def zS17 : Str := S [95,95,98,117,105,108,116,105,110,115,95,95]
noncomputable def zS18 : Str := S [95,95,102,105,108,101,95,95]
noncomputable def zS19 : Str := S [95,95,99,97,99,104,101,100,95,95]
noncomputable def zS20 : Str := S [73,83,84,69,82,77,73,78,65,76]
noncomputable def zS21 : Str := S [73,83,78,79,78,84,69,82,77,73,78,65,76]
noncomputable def zS22 : Str := S [73,83,69,79,70]
noncomputable def zS23 : Str := S [95,102,111,114,109,97,116,112,97,114,97,109]
noncomputable def zS24 : Str := S [72,101,97,100,101,114,115]
noncomputable def zS25 : Str := S [110,97,109,101]
noncomputable def zS26 : Str := S [98,49,95,115,101,116]
noncomputable def zS27 : Str := S [95,108,97,119,95,100,114,97,119,110]
noncomputable def zS28 : Str := S [95,108,97,119,95,112,114,101,112,97,114,101,100]
noncomputable def zS29 : Str := S [95,108,97,119,95,112,105,101,99,101,115]
noncomputable def zS30 : Str := S [95,108,97,119,95,114,111,119]
noncomputable def zS31 : Str := S [95,108,97,119,95,115,116,101,112,115]
noncomputable def zS32 : Str := S [95,108,97,119,95,99,104,97,105,110]
noncomputable def zS33 : Str := S [95,108,97,119,95,102,114,111,110,116]
noncomputable def zS34 : Str := S [95,108,97,119,95,99,104,97,105,110,115]
noncomputable def zS35 : Str := S [95,108,97,119,95,114,101,97,99,104,101,100]
noncomputable def zS36 : Str := S [95,108,97,119,95,100,117,101]
noncomputable def zS37 : Str := S [95,108,97,119,95,116,111,108,100]
noncomputable def zS38 : Str := S [95,108,97,119,95,101,109,112,116,105,101,100]
noncomputable def zS39 : Str := S [95,108,97,119,95,115,104,114,105,110,107,115]
noncomputable def zS40 : Str := S [108,97,119]
noncomputable def zS41 : Str := S [95,95,100,105,99,116,95,95]
noncomputable def zS42 : Str := S [95,95,119,101,97,107,114,101,102,95,95]
noncomputable def zS43 : Str := S [95,95,105,110,105,116,95,95]
noncomputable def zS44 : Str := S [95,95,114,101,112,114,95,95]
noncomputable def zS45 : Str := S [99,112,121,51,49,51,46,115,116,114,105,110,103,112,114,101,112]
noncomputable def zS46 : Str := S [107,101,121]
noncomputable def zS47 : Str := S [98,51,95,101,120,99,101,112,116,105,111,110,115]
noncomputable def zS48 : Str := S [95,95,109,97,105,110,95,95]
noncomputable def zS49 : Str := S [99,112,121,51,49,51,46,116,111,107,101,110]
noncomputable def zS50 : Str := S [69,78,68,77,65,82,75,69,82]
noncomputable def zS51 : Str := S [76,80,65,82]
noncomputable def zS52 : Str := S [82,80,65,82]
noncomputable def zS53 : Str := S [76,83,81,66]
noncomputable def zS54 : Str := S [82,83,81,66]
noncomputable def zS55 : Str := S [67,79,76,79,78]
noncomputable def zS56 : Str := S [67,79,77,77,65]
noncomputable def zS57 : Str := S [83,69,77,73]
noncomputable def zS58 : Str := S [80,76,85,83]
noncomputable def zS59 : Str := S [77,73,78,85,83]
noncomputable def zS60 : Str := S [83,84,65,82]
noncomputable def zS61 : Str := S [83,76,65,83,72]
noncomputable def zS62 : Str := S [86,66,65,82]
noncomputable def zS63 : Str := S [65,77,80,69,82]
noncomputable def zS64 : Str := S [76,69,83,83]
noncomputable def zS65 : Str := S [71,82,69,65,84,69,82]
noncomputable def zS66 : Str := S [69,81,85,65,76]
noncomputable def zS67 : Str := S [68,79,84]
noncomputable def zS68 : Str := S [80,69,82,67,69,78,84]
noncomputable def zS69 : Str := S [76,66,82,65,67,69]
noncomputable def zS70 : Str := S [82,66,82,65,67,69]
noncomputable def zS71 : Str := S [69,81,69,81,85,65,76]
noncomputable def zS72 : Str := S [78,79,84,69,81,85,65,76]
noncomputable def zS73 : Str := S [76,69,83,83,69,81,85,65,76]
noncomputable def zS74 : Str := S [71,82,69,65,84,69,82,69,81,85,65,76]
noncomputable def zS75 : Str := S [84,73,76,68,69]
noncomputable def zS76 : Str := S [67,73,82,67,85,77,70,76,69,88]
noncomputable def zS77 : Str := S [76,69,70,84,83,72,73,70,84]
noncomputable def zS78 : Str := S [82,73,71,72,84,83,72,73,70,84]
noncomputable def zS79 : Str := S [68,79,85,66,76,69,83,84,65,82]
noncomputable def zS80 : Str := S [80,76,85,83,69,81,85,65,76]
noncomputable def zS81 : Str := S [77,73,78,69,81,85,65,76]
noncomputable def zS82 : Str := S [83,84,65,82,69,81,85,65,76]
noncomputable def zS83 : Str := S [83,76,65,83,72,69,81,85,65,76]
noncomputable def zS84 : Str := S [80,69,82,67,69,78,84,69,81,85,65,76]
noncomputable def zS85 : Str := S [65,77,80,69,82,69,81,85,65,76]
noncomputable def zS86 : Str := S [86,66,65,82,69,81,85,65,76]
noncomputable def zS87 : Str := S [67,73,82,67,85,77,70,76,69,88,69,81,85,65,76]
noncomputable def zS88 : Str := S [76,69,70,84,83,72,73,70,84,69,81,85,65,76]
noncomputable def zS89 : Str := S [82,73,71,72,84,83,72,73,70,84,69,81,85,65,76]
noncomputable def zS90 : Str := S [68,79,85,66,76,69,83,84,65,82,69,81,85,65,76]
noncomputable def zS91 : Str := S [68,79,85,66,76,69,83,76,65,83,72]
noncomputable def zS92 : Str := S [68,79,85,66,76,69,83,76,65,83,72,69,81,85,65,76]
noncomputable def zS93 : Str := S [65,84,69,81,85,65,76]
noncomputable def zS94 : Str := S [82,65,82,82,79,87]
noncomputable def zS95 : Str := S [69,76,76,73,80,83,73,83]
noncomputable def zS96 : Str := S [67,79,76,79,78,69,81,85,65,76]
noncomputable def zS97 : Str := S [69,88,67,76,65,77,65,84,73,79,78]
noncomputable def zS98 : Str := S [78,84,95,79,70,70,83,69,84]
noncomputable def zS99 : Str := S [95,99,111,110,118,101,114,116,95,115,116,114,105,110,103,95,116,121,112,101]
noncomputable def zS100 : Str := S [95,95,108,101,110,95,95]
noncomputable def zS101 : Str := S [95,95,115,101,116,105,116,101,109,95,95]
noncomputable def zS102 : Str := S [95,95,100,101,108,105,116,101,109,95,95]
noncomputable def zS103 : Str := S [95,95,103,101,116,105,116,101,109,95,95]
noncomputable def zS104 : Str := S [95,95,99,111,110,116,97,105,110,115,95,95]
noncomputable def zS105 : Str := S [103,101,116,95,97,108,108]
noncomputable def zS106 : Str := S [103,101,116]
noncomputable def zS107 : Str := S [107,101,121,115]
noncomputable def zS108 : Str := S [118,97,108,117,101,115]
noncomputable def zS109 : Str := S [105,116,101,109,115]
noncomputable def zS110 : Str := S [95,95,115,116,114,95,95]
noncomputable def zS111 : Str := S [95,95,98,121,116,101,115,95,95]
noncomputable def zS112 : Str := S [115,101,116,100,101,102,97,117,108,116]
noncomputable def zS113 : Str := S [97,100,100,95,104,101,97,100,101,114]
noncomputable def zS114 : Str := S [60,109,111,100,117,108,101,62]
noncomputable def zS115 : Str := S [95,95,109,111,100,117,108,101,95,95]
noncomputable def zS116 : Str := S [95,95,102,105,114,115,116,108,105,110,101,110,111,95,95]
noncomputable def zS117 : Str := S [95,95,115,116,97,116,105,99,95,97,116,116,114,105,98,117,116,101,115,95,95]
noncomputable def zS118 : Str := S [69,88,65,67,84,95,84,79,75,69,78,95,84,89,80,69,83]
noncomputable def zS119 : Str := S [99,111,109,112,105,108,101]
noncomputable def zS120 : Str := S [99,111,112,121,114,105,103,104,116]
noncomputable def zS121 : Str := S [99,112,121,51,49,51,46,98,105,115,101,99,116]
noncomputable def zS122 : Str := S [116,115,112,101,99,105,97,108,115]
noncomputable def zS123 : Str := S [95,110,97,109,101,95,100,105,115,97,108,108,111,119,101,100,95,114,101]
noncomputable def zS124 : Str := S [95,118,97,108,117,101,95,100,105,115,97,108,108,111,119,101,100,95,114,101]
noncomputable def zS125 : Str := S [118,97,108,117,101]
noncomputable def zS126 : Str := S [72,101,97,100,101,114,115,46,95,95,105,110,105,116,95,95]
noncomputable def zS127 : Str := S [72,101,97,100,101,114,115,46,95,99,111,110,118,101,114,116,95,115,116,114,105,110,103,95,116,121,112,101]
noncomputable def zS128 : Str := S [72,101,97,100,101,114,115,46,95,95,108,101,110,95,95]
noncomputable def zS129 : Str := S [72,101,97,100,101,114,115,46,95,95,115,101,116,105,116,101,109,95,95]
noncomputable def zS130 : Str := S [72,101,97,100,101,114,115,46,95,95,100,101,108,105,116,101,109,95,95]
noncomputable def zS131 : Str := S [72,101,97,100,101,114,115,46,95,95,103,101,116,105,116,101,109,95,95]
noncomputable def zS132 : Str := S [72,101,97,100,101,114,115,46,95,95,99,111,110,116,97,105,110,115,95,95]
noncomputable def zS133 : Str := S [72,101,97,100,101,114,115,46,103,101,116,95,97,108,108]
noncomputable def zS134 : Str := S [72,101,97,100,101,114,115,46,103,101,116]
noncomputable def zS135 : Str := S [72,101,97,100,101,114,115,46,107,101,121,115]
noncomputable def zS136 : Str := S [72,101,97,100,101,114,115,46,118,97,108,117,101,115]
noncomputable def zS137 : Str := S [72,101,97,100,101,114,115,46,105,116,101,109,115]
noncomputable def zS138 : Str := S [72,101,97,100,101,114,115,46,95,95,114,101,112,114,95,95]
noncomputable def zS139 : Str := S [72,101,97,100,101,114,115,46,95,95,115,116,114,95,95]
noncomputable def zS140 : Str := S [72,101,97,100,101,114,115,46,95,95,98,121,116,101,115,95,95]
noncomputable def zS141 : Str := S [72,101,97,100,101,114,115,46,115,101,116,100,101,102,97,117,108,116]
noncomputable def zS142 : Str := S [72,101,97,100,101,114,115,46,97,100,100,95,104,101,97,100,101,114]
noncomputable def zS143 : Str := S [112,105,101,99,101,115]
noncomputable def zS144 : Str := S [103,101,116,99,111,100,101,115,105,122,101]
noncomputable def zS145 : Str := S [97,115,99,105,105,95,105,115,99,97,115,101,100]
noncomputable def zS146 : Str := S [117,110,105,99,111,100,101,95,105,115,99,97,115,101,100]
noncomputable def zS147 : Str := S [97,115,99,105,105,95,116,111,108,111,119,101,114]
noncomputable def zS148 : Str := S [117,110,105,99,111,100,101,95,116,111,108,111,119,101,114]
noncomputable def zS149 : Str := S [32,83,82,69,32,50,46,50,46,50,32,67,111,112,121,114,105,103,104,116,32,40,99,41,32,49,57,57,55,45,50,48,48,50,32,98,121,32,83,101,99,114,101,116,32,76,97,98,115,32,65,66,32]
noncomputable def zS150 : Str := S [95,102,114,111,122,101,110,95,105,109,112,111,114,116,108,105,98]
noncomputable def zS151 : Str := S [66,117,105,108,116,105,110,73,109,112,111,114,116,101,114]
noncomputable def zS152 : Str := S [108,111,97,100,101,114,95,115,116,97,116,101]
noncomputable def zS153 : Str := S [115,117,98,109,111,100,117,108,101,95,115,101,97,114,99,104,95,108,111,99,97,116,105,111,110,115]
noncomputable def zS154 : Str := S [95,117,110,105,110,105,116,105,97,108,105,122,101,100,95,115,117,98,109,111,100,117,108,101,115]
noncomputable def zS155 : Str := S [95,115,101,116,95,102,105,108,101,97,116,116,114]
noncomputable def zS156 : Str := S [77,111,100,117,108,101,83,112,101,99]
noncomputable def eD0 (P : Params) : DictEntry := aE P zS2 166 .none
noncomputable def eD1 (P : Params) : DictEntry := aE P zS10 167 .none
noncomputable def eD2 (P : Params) : DictEntry := aE P zS11 168 (.builtin "__main__.__loader__#opaque")
noncomputable def eD3 (P : Params) : DictEntry := aE P zS12 169 .none
noncomputable def eD4 (P : Params) : DictEntry := aE P zS16 170 (aR 6)
noncomputable def eD5 (P : Params) : DictEntry := aE P zS17 171 (aR 4)
noncomputable def eD6 (P : Params) : DictEntry := aE P zS18 173 (aS zS0 172)
noncomputable def eD7 (P : Params) : DictEntry := aE P zS19 174 .none
noncomputable def eD8 (P : Params) : DictEntry := aE P zS3 275 (aR 12)
noncomputable def eD9 (P : Params) : DictEntry := aE P zS4 288 (aR 38)
noncomputable def eD10 (P : Params) : DictEntry := aE P zS5 303 (aR 47)
noncomputable def eD11 (P : Params) : DictEntry := aE P zS6 317 (aR 56)
noncomputable def eD12 (P : Params) : DictEntry := aE P zS7 331 (aR 65)
noncomputable def eD13 (P : Params) : DictEntry := aE P zS26 393 (aR 73)
noncomputable def eD14 (P : Params) : DictEntry := aE P zS13 400 (aR 83)
noncomputable def eD15 (P : Params) : DictEntry := aE P zS47 2351 (aR 84)
noncomputable def eD16 (P : Params) : DictEntry := aE P zS15 2359 (aR 129)
noncomputable def eD17 (P : Params) : DictEntry := aE P zS50 2363 (.int 0 2362)
noncomputable def eD18 (P : Params) : DictEntry := aE P zS51 2365 (.int 7 2364)
noncomputable def eD19 (P : Params) : DictEntry := aE P zS52 2367 (.int 8 2366)
noncomputable def eD20 (P : Params) : DictEntry := aE P zS53 2369 (.int 9 2368)
noncomputable def eD21 (P : Params) : DictEntry := aE P zS54 2371 (.int 10 2370)
noncomputable def eD22 (P : Params) : DictEntry := aE P zS55 2373 (.int 11 2372)
noncomputable def eD23 (P : Params) : DictEntry := aE P zS56 2375 (.int 12 2374)
noncomputable def eD24 (P : Params) : DictEntry := aE P zS57 2377 (.int 13 2376)
noncomputable def eD25 (P : Params) : DictEntry := aE P zS58 2379 (.int 14 2378)
noncomputable def eD26 (P : Params) : DictEntry := aE P zS59 2381 (.int 15 2380)
noncomputable def eD27 (P : Params) : DictEntry := aE P zS60 2383 (.int 16 2382)
noncomputable def eD28 (P : Params) : DictEntry := aE P zS61 2385 (.int 17 2384)
noncomputable def eD29 (P : Params) : DictEntry := aE P zS62 2387 (.int 18 2386)
noncomputable def eD30 (P : Params) : DictEntry := aE P zS63 2389 (.int 19 2388)
noncomputable def eD31 (P : Params) : DictEntry := aE P zS64 2391 (.int 20 2390)
noncomputable def eD32 (P : Params) : DictEntry := aE P zS65 2393 (.int 21 2392)
noncomputable def eD33 (P : Params) : DictEntry := aE P zS66 2395 (.int 22 2394)
noncomputable def eD34 (P : Params) : DictEntry := aE P zS67 2397 (.int 23 2396)
noncomputable def eD35 (P : Params) : DictEntry := aE P zS68 2399 (.int 24 2398)
noncomputable def eD36 (P : Params) : DictEntry := aE P zS69 2401 (.int 25 2400)
noncomputable def eD37 (P : Params) : DictEntry := aE P zS70 2403 (.int 26 2402)
noncomputable def eD38 (P : Params) : DictEntry := aE P zS71 2405 (.int 27 2404)
noncomputable def eD39 (P : Params) : DictEntry := aE P zS72 2407 (.int 28 2406)
noncomputable def eD40 (P : Params) : DictEntry := aE P zS73 2409 (.int 29 2408)
noncomputable def eD41 (P : Params) : DictEntry := aE P zS74 2411 (.int 30 2410)
noncomputable def eD42 (P : Params) : DictEntry := aE P zS75 2413 (.int 31 2412)
noncomputable def eD43 (P : Params) : DictEntry := aE P zS76 2415 (.int 32 2414)
noncomputable def eD44 (P : Params) : DictEntry := aE P zS77 2417 (.int 33 2416)
noncomputable def eD45 (P : Params) : DictEntry := aE P zS78 2419 (.int 34 2418)
noncomputable def eD46 (P : Params) : DictEntry := aE P zS79 2421 (.int 35 2420)
noncomputable def eD47 (P : Params) : DictEntry := aE P zS80 2423 (.int 36 2422)
noncomputable def eD48 (P : Params) : DictEntry := aE P zS81 2425 (.int 37 2424)
noncomputable def eD49 (P : Params) : DictEntry := aE P zS82 2427 (.int 38 2426)
noncomputable def eD50 (P : Params) : DictEntry := aE P zS83 2429 (.int 39 2428)
noncomputable def eD51 (P : Params) : DictEntry := aE P zS84 2431 (.int 40 2430)
noncomputable def eD52 (P : Params) : DictEntry := aE P zS85 2433 (.int 41 2432)
noncomputable def eD53 (P : Params) : DictEntry := aE P zS86 2435 (.int 42 2434)
noncomputable def eD54 (P : Params) : DictEntry := aE P zS87 2437 (.int 43 2436)
noncomputable def eD55 (P : Params) : DictEntry := aE P zS88 2439 (.int 44 2438)
noncomputable def eD56 (P : Params) : DictEntry := aE P zS89 2441 (.int 45 2440)
noncomputable def eD57 (P : Params) : DictEntry := aE P zS90 2443 (.int 46 2442)
noncomputable def eD58 (P : Params) : DictEntry := aE P zS91 2445 (.int 47 2444)
noncomputable def eD59 (P : Params) : DictEntry := aE P zS92 2447 (.int 48 2446)
noncomputable def eD60 (P : Params) : DictEntry := aE P (S [65,84]) 2449 (.int 49 2448)
noncomputable def eD61 (P : Params) : DictEntry := aE P zS93 2451 (.int 50 2450)
noncomputable def eD62 (P : Params) : DictEntry := aE P zS94 2453 (.int 51 2452)
noncomputable def eD63 (P : Params) : DictEntry := aE P zS95 2455 (.int 52 2454)
noncomputable def eD64 (P : Params) : DictEntry := aE P zS96 2457 (.int 53 2456)
noncomputable def eD65 (P : Params) : DictEntry := aE P zS97 2459 (.int 54 2458)
noncomputable def eD66 (P : Params) : DictEntry := aE P zS98 2461 (.int 256 2460)
noncomputable def eD67 (P : Params) : DictEntry := aE P zS9 165 (aS zS45 332)
noncomputable def eD68 (P : Params) : DictEntry := aE P zS118 2558 (aR 130)
noncomputable def eD69 (P : Params) : DictEntry := aE P (S [77,65,88,82,69,80,69,65,84]) 265 (.int 4294967295 264)
noncomputable def eD70 (P : Params) : DictEntry := aE P (S [77,65,88,71,82,79,85,80,83]) 267 (.int 1073741823 266)
noncomputable def o84 : Obj := dictO (bes 401 (b3.take 646) ++ bes2 2339 (b3.drop 646)) 650
noncomputable def o85 : Obj := dictO (bes 452 ((b3.drop 17).take 17)) 17
noncomputable def o86 : Obj := dictO (bes 503 ((b3.drop 34).take 17)) 17
noncomputable def o87 : Obj := dictO (bes 554 ((b3.drop 51).take 17)) 17
noncomputable def o88 : Obj := dictO (bes 605 ((b3.drop 68).take 17)) 17
noncomputable def o89 : Obj := dictO (bes 656 ((b3.drop 85).take 17)) 17
noncomputable def o90 : Obj := dictO (bes 707 ((b3.drop 102).take 17)) 17
noncomputable def o91 : Obj := dictO (bes 758 ((b3.drop 119).take 17)) 17
noncomputable def o92 : Obj := dictO (bes 809 ((b3.drop 136).take 17)) 17
noncomputable def o93 : Obj := dictO (bes 860 ((b3.drop 153).take 17)) 17
noncomputable def o94 : Obj := dictO (bes 911 ((b3.drop 170).take 17)) 17
noncomputable def o95 : Obj := dictO (bes 962 ((b3.drop 187).take 17)) 17
noncomputable def o96 : Obj := dictO (bes 1013 ((b3.drop 204).take 17)) 17
noncomputable def o97 : Obj := dictO (bes 1064 ((b3.drop 221).take 17)) 17
noncomputable def o98 : Obj := dictO (bes 1115 ((b3.drop 238).take 17)) 17
noncomputable def o99 : Obj := dictO (bes 1166 ((b3.drop 255).take 17)) 17
noncomputable def o100 : Obj := dictO (bes 1217 ((b3.drop 272).take 17)) 17
noncomputable def o101 : Obj := dictO (bes 1268 ((b3.drop 289).take 17)) 17
noncomputable def o102 : Obj := dictO (bes 1319 ((b3.drop 306).take 17)) 17
noncomputable def o103 : Obj := dictO (bes 1370 ((b3.drop 323).take 17)) 17
noncomputable def o104 : Obj := dictO (bes 1421 ((b3.drop 340).take 17)) 17
noncomputable def o105 : Obj := dictO (bes 1472 ((b3.drop 357).take 17)) 17
noncomputable def o106 : Obj := dictO (bes 1523 ((b3.drop 374).take 17)) 17
noncomputable def o107 : Obj := dictO (bes 1574 ((b3.drop 391).take 17)) 17
noncomputable def o108 : Obj := dictO (bes 1625 ((b3.drop 408).take 17)) 17
noncomputable def o109 : Obj := dictO (bes 1676 ((b3.drop 425).take 17)) 17
noncomputable def o110 : Obj := dictO (bes 1727 ((b3.drop 442).take 17)) 17
noncomputable def o111 : Obj := dictO (bes 1778 ((b3.drop 459).take 17)) 17
noncomputable def o112 : Obj := dictO (bes 1829 ((b3.drop 476).take 17)) 17
noncomputable def o113 : Obj := dictO (bes 1880 ((b3.drop 493).take 17)) 17
noncomputable def o114 : Obj := dictO (bes 1931 ((b3.drop 510).take 17)) 17
noncomputable def o115 : Obj := dictO (bes 1982 ((b3.drop 527).take 17)) 17
noncomputable def o116 : Obj := dictO (bes 2033 ((b3.drop 544).take 17)) 17
noncomputable def o117 : Obj := dictO (bes 2084 ((b3.drop 561).take 17)) 17
noncomputable def o118 : Obj := dictO (bes 2135 ((b3.drop 578).take 17)) 17
noncomputable def o119 : Obj := dictO (bes 2186 ((b3.drop 595).take 17)) 17
noncomputable def o120 : Obj := dictO (bes 2237 ((b3.drop 612).take 17)) 17
noncomputable def o121 : Obj := dictO (bes 2288 ((b3.drop 629).take 17)) 17
noncomputable def o122 : Obj := dictO (bes2 2339 (b3.drop 646)) 4
noncomputable def o0 (P : Params) : Obj := aD [aE P zS9 1 (aS (S [98,117,105,108,116,105,110,115]) 160), aE P zS2 2 (.builtin "builtins.__doc__:str#opaque"), aE P zS10 3 (.builtin "builtins.__package__:str#opaque"), aE P zS11 4 (.builtin "builtins.__loader__:shared#opaque"), aE P zS12 5 (.builtin "builtins.__spec__#opaque"), aE P (S [95,95,98,117,105,108,100,95,99,108,97,115,115,95,95]) 6 (.builtin "__build_class__"), aE P (S [95,95,105,109,112,111,114,116,95,95]) 7 (.builtin "__import__"), aE P (S [97,98,115]) 8 (.builtin "abs"), aE P (S [97,108,108]) 9 (.builtin "all"), aE P (S [97,110,121]) 10 (.builtin "any"), aE P (S [97,115,99,105,105]) 11 (.builtin "ascii"), aE P (S [98,105,110]) 12 (.builtin "bin"), aE P (S [98,114,101,97,107,112,111,105,110,116]) 13 (.builtin "breakpoint"), aE P (S [99,97,108,108,97,98,108,101]) 14 (.builtin "callable"), aE P (S [99,104,114]) 15 (.builtin "chr"), aE P zS119 16 (.builtin "compile"), aE P (S [100,101,108,97,116,116,114]) 17 (.builtin "delattr"), aE P (S [100,105,114]) 18 (.builtin "dir"), aE P (S [100,105,118,109,111,100]) 19 (.builtin "divmod"), aE P (S [101,118,97,108]) 20 (.builtin "eval"), aE P (S [101,120,101,99]) 21 (.builtin "exec"), aE P (S [102,111,114,109,97,116]) 22 (.builtin "format"), aE P (S [103,101,116,97,116,116,114]) 23 (.builtin "getattr"), aE P (S [103,108,111,98,97,108,115]) 24 (.builtin "globals"), aE P (S [104,97,115,97,116,116,114]) 25 (.builtin "hasattr"), aE P (S [104,97,115,104]) 26 (.builtin "hash"), aE P (S [104,101,120]) 27 (.builtin "hex"), aE P (S [105,100]) 28 (.builtin "id"), aE P (S [105,110,112,117,116]) 29 (.builtin "input"), aE P (S [105,115,105,110,115,116,97,110,99,101]) 30 (.builtin "isinstance"), aE P (S [105,115,115,117,98,99,108,97,115,115]) 31 (.builtin "issubclass"), aE P (S [105,116,101,114]) 32 (.builtin "iter"), aE P (S [97,105,116,101,114]) 33 (.builtin "aiter"), aE P (S [108,101,110]) 34 (.builtin "len"), aE P (S [108,111,99,97,108,115]) 35 (.builtin "locals"), aE P (S [109,97,120]) 36 (.builtin "max"), aE P (S [109,105,110]) 37 (.builtin "min"), aE P (S [110,101,120,116]) 38 (.builtin "next"), aE P (S [97,110,101,120,116]) 39 (.builtin "anext"), aE P (S [111,99,116]) 40 (.builtin "oct"), aE P (S [111,114,100]) 41 (.builtin "ord"), aE P (S [112,111,119]) 42 (.builtin "pow"), aE P (S [112,114,105,110,116]) 43 (.builtin "print"), aE P (S [114,101,112,114]) 44 (.builtin "repr"), aE P (S [114,111,117,110,100]) 45 (.builtin "round"), aE P (S [115,101,116,97,116,116,114]) 46 (.builtin "setattr"), aE P (S [115,111,114,116,101,100]) 47 (.builtin "sorted"), aE P (S [115,117,109]) 48 (.builtin "sum"), aE P (S [118,97,114,115]) 49 (.builtin "vars"), aE P (S [78,111,110,101]) 50 .none, aE P (S [69,108,108,105,112,115,105,115]) 51 .ellipsis, aE P (S [78,111,116,73,109,112,108,101,109,101,110,116,101,100]) 52 .notImplemented, aE P (S [70,97,108,115,101]) 53 (.bool false), aE P (S [84,114,117,101]) 54 (.bool true), aE P (S [98,111,111,108]) 55 (.type "bool"), aE P (S [109,101,109,111,114,121,118,105,101,119]) 56 (.type "memoryview"), aE P (S [98,121,116,101,97,114,114,97,121]) 57 (.type "bytearray"), aE P (S [98,121,116,101,115]) 58 (.type "bytes"), aE P (S [99,108,97,115,115,109,101,116,104,111,100]) 59 (.type "classmethod"), aE P (S [99,111,109,112,108,101,120]) 60 (.type "complex"), aE P (S [100,105,99,116]) 61 (.type "dict"), aE P (S [101,110,117,109,101,114,97,116,101]) 62 (.type "enumerate"), aE P (S [102,105,108,116,101,114]) 63 (.type "filter"), aE P (S [102,108,111,97,116]) 64 (.type "float"), aE P (S [102,114,111,122,101,110,115,101,116]) 65 (.type "frozenset"), aE P (S [112,114,111,112,101,114,116,121]) 66 (.type "property"), aE P (S [105,110,116]) 67 (.type "int"), aE P (S [108,105,115,116]) 68 (.type "list"), aE P (S [109,97,112]) 69 (.type "map"), aE P (S [111,98,106,101,99,116]) 70 (.type "object"), aE P (S [114,97,110,103,101]) 71 (.type "range"), aE P (S [114,101,118,101,114,115,101,100]) 72 (.type "reversed"), aE P (S [115,101,116]) 73 (.type "set"), aE P (S [115,108,105,99,101]) 74 (.type "slice"), aE P (S [115,116,97,116,105,99,109,101,116,104,111,100]) 75 (.type "staticmethod"), aE P (S [115,116,114]) 76 (.type "str"), aE P (S [115,117,112,101,114]) 77 (.type "super"), aE P (S [116,117,112,108,101]) 78 (.type "tuple"), aE P (S [116,121,112,101]) 79 (.type "type"), aE P (S [122,105,112]) 80 (.type "zip"), aE P (S [95,95,100,101,98,117,103,95,95]) 81 (.bool true), aE P (S [66,97,115,101,69,120,99,101,112,116,105,111,110]) 82 (.type "BaseException"), aE P (S [66,97,115,101,69,120,99,101,112,116,105,111,110,71,114,111,117,112]) 83 (.type "BaseExceptionGroup"), aE P (S [69,120,99,101,112,116,105,111,110]) 84 (.type "Exception"), aE P (S [71,101,110,101,114,97,116,111,114,69,120,105,116]) 85 (.type "GeneratorExit"), aE P (S [75,101,121,98,111,97,114,100,73,110,116,101,114,114,117,112,116]) 86 (.type "KeyboardInterrupt"), aE P (S [83,121,115,116,101,109,69,120,105,116]) 87 (.type "SystemExit"), aE P (S [65,114,105,116,104,109,101,116,105,99,69,114,114,111,114]) 88 (.type "ArithmeticError"), aE P (S [65,115,115,101,114,116,105,111,110,69,114,114,111,114]) 89 (.type "AssertionError"), aE P (S [65,116,116,114,105,98,117,116,101,69,114,114,111,114]) 90 (.type "AttributeError"), aE P (S [66,117,102,102,101,114,69,114,114,111,114]) 91 (.type "BufferError"), aE P (S [69,79,70,69,114,114,111,114]) 92 (.type "EOFError"), aE P (S [73,109,112,111,114,116,69,114,114,111,114]) 93 (.type "ImportError"), aE P (S [76,111,111,107,117,112,69,114,114,111,114]) 94 (.type "LookupError"), aE P (S [77,101,109,111,114,121,69,114,114,111,114]) 95 (.type "MemoryError"), aE P (S [78,97,109,101,69,114,114,111,114]) 96 (.type "NameError"), aE P (S [79,83,69,114,114,111,114]) 97 (.type "OSError"), aE P (S [82,101,102,101,114,101,110,99,101,69,114,114,111,114]) 98 (.type "ReferenceError"), aE P (S [82,117,110,116,105,109,101,69,114,114,111,114]) 99 (.type "RuntimeError"), aE P (S [83,116,111,112,65,115,121,110,99,73,116,101,114,97,116,105,111,110]) 100 (.type "StopAsyncIteration"), aE P (S [83,116,111,112,73,116,101,114,97,116,105,111,110]) 101 (.type "StopIteration"), aE P (S [83,121,110,116,97,120,69,114,114,111,114]) 102 (.type "SyntaxError"), aE P (S [83,121,115,116,101,109,69,114,114,111,114]) 103 (.type "SystemError"), aE P (S [84,121,112,101,69,114,114,111,114]) 104 (.type "TypeError"), aE P (S [86,97,108,117,101,69,114,114,111,114]) 105 (.type "ValueError"), aE P (S [87,97,114,110,105,110,103]) 106 (.type "Warning"), aE P (S [70,108,111,97,116,105,110,103,80,111,105,110,116,69,114,114,111,114]) 107 (.type "FloatingPointError"), aE P (S [79,118,101,114,102,108,111,119,69,114,114,111,114]) 108 (.type "OverflowError"), aE P (S [90,101,114,111,68,105,118,105,115,105,111,110,69,114,114,111,114]) 109 (.type "ZeroDivisionError"), aE P (S [66,121,116,101,115,87,97,114,110,105,110,103]) 110 (.type "BytesWarning"), aE P (S [68,101,112,114,101,99,97,116,105,111,110,87,97,114,110,105,110,103]) 111 (.type "DeprecationWarning"), aE P (S [69,110,99,111,100,105,110,103,87,97,114,110,105,110,103]) 112 (.type "EncodingWarning"), aE P (S [70,117,116,117,114,101,87,97,114,110,105,110,103]) 113 (.type "FutureWarning"), aE P (S [73,109,112,111,114,116,87,97,114,110,105,110,103]) 114 (.type "ImportWarning"), aE P (S [80,101,110,100,105,110,103,68,101,112,114,101,99,97,116,105,111,110,87,97,114,110,105,110,103]) 115 (.type "PendingDeprecationWarning"), aE P (S [82,101,115,111,117,114,99,101,87,97,114,110,105,110,103]) 116 (.type "ResourceWarning"), aE P (S [82,117,110,116,105,109,101,87,97,114,110,105,110,103]) 117 (.type "RuntimeWarning"), aE P (S [83,121,110,116,97,120,87,97,114,110,105,110,103]) 118 (.type "SyntaxWarning"), aE P (S [85,110,105,99,111,100,101,87,97,114,110,105,110,103]) 119 (.type "UnicodeWarning"), aE P (S [85,115,101,114,87,97,114,110,105,110,103]) 120 (.type "UserWarning"), aE P (S [66,108,111,99,107,105,110,103,73,79,69,114,114,111,114]) 121 (.type "BlockingIOError"), aE P (S [67,104,105,108,100,80,114,111,99,101,115,115,69,114,114,111,114]) 122 (.type "ChildProcessError"), aE P (S [67,111,110,110,101,99,116,105,111,110,69,114,114,111,114]) 123 (.type "ConnectionError"), aE P (S [70,105,108,101,69,120,105,115,116,115,69,114,114,111,114]) 124 (.type "FileExistsError"), aE P (S [70,105,108,101,78,111,116,70,111,117,110,100,69,114,114,111,114]) 125 (.type "FileNotFoundError"), aE P (S [73,110,116,101,114,114,117,112,116,101,100,69,114,114,111,114]) 126 (.type "InterruptedError"), aE P (S [73,115,65,68,105,114,101,99,116,111,114,121,69,114,114,111,114]) 127 (.type "IsADirectoryError"), aE P (S [78,111,116,65,68,105,114,101,99,116,111,114,121,69,114,114,111,114]) 128 (.type "NotADirectoryError"), aE P (S [80,101,114,109,105,115,115,105,111,110,69,114,114,111,114]) 129 (.type "PermissionError"), aE P (S [80,114,111,99,101,115,115,76,111,111,107,117,112,69,114,114,111,114]) 130 (.type "ProcessLookupError"), aE P (S [84,105,109,101,111,117,116,69,114,114,111,114]) 131 (.type "TimeoutError"), aE P (S [73,110,100,101,110,116,97,116,105,111,110,69,114,114,111,114]) 132 (.type "IndentationError"), aE P (S [95,73,110,99,111,109,112,108,101,116,101,73,110,112,117,116,69,114,114,111,114]) 133 (.type "_IncompleteInputError"), aE P (S [73,110,100,101,120,69,114,114,111,114]) 134 (.type "IndexError"), aE P (S [75,101,121,69,114,114,111,114]) 135 (.type "KeyError"), aE P (S [77,111,100,117,108,101,78,111,116,70,111,117,110,100,69,114,114,111,114]) 136 (.type "ModuleNotFoundError"), aE P (S [78,111,116,73,109,112,108,101,109,101,110,116,101,100,69,114,114,111,114]) 137 (.type "NotImplementedError"), aE P (S [80,121,116,104,111,110,70,105,110,97,108,105,122,97,116,105,111,110,69,114,114,111,114]) 138 (.type "PythonFinalizationError"), aE P (S [82,101,99,117,114,115,105,111,110,69,114,114,111,114]) 139 (.type "RecursionError"), aE P (S [85,110,98,111,117,110,100,76,111,99,97,108,69,114,114,111,114]) 140 (.type "UnboundLocalError"), aE P (S [85,110,105,99,111,100,101,69,114,114,111,114]) 141 (.type "UnicodeError"), aE P (S [66,114,111,107,101,110,80,105,112,101,69,114,114,111,114]) 142 (.type "BrokenPipeError"), aE P (S [67,111,110,110,101,99,116,105,111,110,65,98,111,114,116,101,100,69,114,114,111,114]) 143 (.type "ConnectionAbortedError"), aE P (S [67,111,110,110,101,99,116,105,111,110,82,101,102,117,115,101,100,69,114,114,111,114]) 144 (.type "ConnectionRefusedError"), aE P (S [67,111,110,110,101,99,116,105,111,110,82,101,115,101,116,69,114,114,111,114]) 145 (.type "ConnectionResetError"), aE P (S [84,97,98,69,114,114,111,114]) 146 (.type "TabError"), aE P (S [85,110,105,99,111,100,101,68,101,99,111,100,101,69,114,114,111,114]) 147 (.type "UnicodeDecodeError"), aE P (S [85,110,105,99,111,100,101,69,110,99,111,100,101,69,114,114,111,114]) 148 (.type "UnicodeEncodeError"), aE P (S [85,110,105,99,111,100,101,84,114,97,110,115,108,97,116,101,69,114,114,111,114]) 149 (.type "UnicodeTranslateError"), aE P (S [69,120,99,101,112,116,105,111,110,71,114,111,117,112]) 150 (.type "ExceptionGroup"), aE P (S [69,110,118,105,114,111,110,109,101,110,116,69,114,114,111,114]) 151 (.type "OSError"), aE P (S [73,79,69,114,114,111,114]) 152 (.type "OSError"), aE P (S [111,112,101,110]) 153 (.builtin "open"), aE P (S [113,117,105,116]) 154 (.builtin "builtins.quit#opaque"), aE P (S [101,120,105,116]) 155 (.builtin "builtins.exit#opaque"), aE P zS120 156 (.builtin "builtins.copyright#opaque"), aE P (S [99,114,101,100,105,116,115]) 157 (.builtin "builtins.credits#opaque"), aE P (S [108,105,99,101,110,115,101]) 158 (.builtin "builtins.license#opaque"), aE P (S [104,101,108,112]) 159 (.builtin "builtins.help#opaque")] 159
noncomputable def o1 (P : Params) : Obj := aD [aE P (S [98,117,105,108,116,105,110,115]) 162 (aR 4), aE P zS48 163 (aR 5), aE P zS3 244 (aR 12)] 3
noncomputable def o2 (P : Params) : Obj := ⟨.none, none, .dict ⟨[aE P (S [105,109,112,111,114,116,46,108,111,97,100,101,100,46,95,115,114,101]) 183 (.bool true), aE P (S [99,108,97,115,115,46,95,102,114,111,122,101,110,95,105,109,112,111,114,116,108,105,98,46,66,117,105,108,116,105,110,73,109,112,111,114,116,101,114]) 185 (aR 14), aE P (S [119,97,116,99,104,101,100,46,105,109,112,111,114,116]) 206 (aR 18), aE P (S [99,108,97,115,115,46,95,102,114,111,122,101,110,95,105,109,112,111,114,116,108,105,98,46,77,111,100,117,108,101,83,112,101,99]) 216 (aR 22), aE P (S [115,121,115,46,109,111,100,117,108,101,115,46,98,111,111,107,101,100,45,101,112,111,99,104]) 245 (aI 3), aE P (S [105,109,112,111,114,116,46,108,97,116,101,114,45,108,97,105,100,46,95,115,114,101]) 270 (.bool true), aE P (S [119,97,116,99,104,101,100,46,108,105,98,114,97,114,121]) 272 (aR 27), aE P (S [119,97,116,99,104,101,100,46,108,105,98,114,97,114,121,45,111,98,106,101,99,116,115]) 0 (aS (S [12]) 0), aE P (S [119,97,116,99,104,101,100,46,108,105,98,114,97,114,121,45,100,101,101,112,46,95,115,114,101]) 273 (aS (S [4,0,0,11,4,0,0,11,4,0,0,3,4,0,0,11,8,4,100,105,99,116,2]) 0)]⟩ 9, ⟨[]⟩⟩
noncomputable def o3 (P : Params) : Obj := aD [aE P zS9 165 (aS zS48 164), eD0 P, eD1 P, eD2 P, eD3 P, eD4 P, eD5 P, eD6 P, eD7 P, eD8 P] 10
noncomputable def o4 : Obj := ⟨(.type "module"), (some 0), .plain, ⟨[]⟩⟩
noncomputable def o5 : Obj := ⟨(.type "module"), (some 3), .plain, ⟨[]⟩⟩
noncomputable def o6 : Obj := aD [] 0
noncomputable def o7 : Obj := aT []
noncomputable def o8 : Obj := aF []
noncomputable def o9 : Obj := ⟨(.type "code"), none, .fields ⟨[(aS zS114 176), (aS zS114 177), (aS zS0 178), (aI 1), (aI 0), (aI 0), (aI 0), (aI 0), (aR 7), (.bool false), (aI 175), (aR 8), .none, .none, .none, .none, (aI 179), (aI 1), (aS zS0 180)]⟩, ⟨[]⟩⟩
noncomputable def o10 : Obj := ⟨(.type "frame"), none, .plain, ⟨[some (aR 9), some (aR 3), some (aR 3), none, some (aS zS48 164), none, some (aR 0)]⟩⟩
noncomputable def o11 (P : Params) : Obj := aD [aE P zS9 247 (aS zS3 246), aE P zS2 248 .none, aE P zS10 250 (aS (S []) 249), aE P zS11 251 (.builtin "off-the-table:_sre.__loader__:shared#opaque"), aE P zS12 252 (.builtin "off-the-table:_sre.__spec__:shared#opaque"), aE P zS119 253 (.builtin "_sre.compile"), aE P (S [116,101,109,112,108,97,116,101]) 254 (.builtin "off-the-table:_sre.template:shared#opaque"), aE P zS144 255 (.builtin "off-the-table:_sre.getcodesize:shared#opaque"), aE P zS145 256 (.builtin "off-the-table:_sre.ascii_iscased:shared#opaque"), aE P zS146 257 (.builtin "off-the-table:_sre.unicode_iscased:shared#opaque"), aE P zS147 258 (.builtin "off-the-table:_sre.ascii_tolower:shared#opaque"), aE P zS148 259 (.builtin "off-the-table:_sre.unicode_tolower:shared#opaque"), aE P (S [77,65,71,73,67]) 261 (.int 20230612 260), aE P (S [67,79,68,69,83,73,90,69]) 263 (.int 4 262), eD69 P, eD70 P, aE P zS120 269 (aS zS149 268)] 17
noncomputable def o12 : Obj := ⟨(.type "module"), (some 11), .plain, ⟨[]⟩⟩
noncomputable def o13 (P : Params) : Obj := aD [aE P zS115 189 (aS zS150 186), aE P zS116 190 (.int 971 187), aE P zS2 191 (.builtin "_frozen_importlib.BuiltinImporter.__doc__:str#opaque"), aE P (S [95,79,82,73,71,73,78]) 192 (aS (S [98,117,105,108,116,45,105,110]) 188), aE P (S [102,105,110,100,95,115,112,101,99]) 193 (.builtin "_frozen_importlib.BuiltinImporter.find_spec#opaque"), aE P (S [99,114,101,97,116,101,95,109,111,100,117,108,101]) 194 (.builtin "_frozen_importlib.BuiltinImporter.create_module#opaque"), aE P (S [101,120,101,99,95,109,111,100,117,108,101]) 195 (.builtin "_frozen_importlib.BuiltinImporter.exec_module#opaque"), aE P (S [103,101,116,95,99,111,100,101]) 196 (.builtin "_frozen_importlib.BuiltinImporter.get_code#opaque"), aE P (S [103,101,116,95,115,111,117,114,99,101]) 197 (.builtin "_frozen_importlib.BuiltinImporter.get_source#opaque"), aE P (S [105,115,95,112,97,99,107,97,103,101]) 198 (.builtin "_frozen_importlib.BuiltinImporter.is_package#opaque"), aE P (S [108,111,97,100,95,109,111,100,117,108,101]) 199 (.builtin "_frozen_importlib.BuiltinImporter.load_module#opaque"), aE P zS117 200 (aR 15), aE P zS41 202 (aR 16), aE P zS42 204 (aR 17)] 14
noncomputable def o14 : Obj := ⟨(.type "type"), none, .cls { name := zS151, bases := [(.type "object")], mro := [(aR 14), (.type "object")], ns := 13, qualname := zS151, hasDict := true, slotNames := [], subclasses := [], abstract := false, collection := none, hasDel := false }, ⟨[]⟩⟩
noncomputable def o15 : Obj := aT []
noncomputable def o16 : Obj := ⟨(.type "getset_descriptor"), none, .fields ⟨[(aS zS41 201), (aR 14), (.builtin "function.__dict__"), (.builtin "function.__dict__#set")]⟩, ⟨[]⟩⟩
noncomputable def o17 : Obj := ⟨(.type "getset_descriptor"), none, .fields ⟨[(aS zS42 203), (aR 14), (.builtin "ExceptionGroup.__weakref__"), .none]⟩, ⟨[]⟩⟩
noncomputable def o18 : Obj := ⟨.none, none, .seq ⟨[(aI 13), (aS (S [6,189,10,95,95,109,111,100,117,108,101,95,95,6,186,17,95,102,114,111,122,101,110,95,105,109,112,111,114,116,108,105,98,6,190,15,95,95,102,105,114,115,116,108,105,110,101,110,111,95,95,4,187,0,971,6,191,7,95,95,100,111,99,95,95,9,52,95,102,114,111,122,101,110,95,105,109,112,111,114,116,108,105,98,46,66,117,105,108,116,105,110,73,109,112,111,114,116,101,114,46,95,95,100,111,99,95,95,58,115,116,114,35,111,112,97,113,117,101,6,192,7,95,79,82,73,71,73,78,6,188,8,98,117,105,108,116,45,105,110,6,193,9,102,105,110,100,95,115,112,101,99,9,50,95,102,114,111,122,101,110,95,105,109,112,111,114,116,108,105,98,46,66,117,105,108,116,105,110,73,109,112,111,114,116,101,114,46,102,105,110,100,95,115,112,101,99,35,111,112,97,113,117,101,6,194,13,99,114,101,97,116,101,95,109,111,100,117,108,101,9,54,95,102,114,111,122,101,110,95,105,109,112,111,114,116,108,105,98,46,66,117,105,108,116,105,110,73,109,112,111,114,116,101,114,46,99,114,101,97,116,101,95,109,111,100,117,108,101,35,111,112,97,113,117,101,6,195,11,101,120,101,99,95,109,111,100,117,108,101,9,52,95,102,114,111,122,101,110,95,105,109,112,111,114,116,108,105,98,46,66,117,105,108,116,105,110,73,109,112,111,114,116,101,114,46,101,120,101,99,95,109,111,100,117,108,101,35,111,112,97,113,117,101,6,196,8,103,101,116,95,99,111,100,101,9,49,95,102,114,111,122,101,110,95,105,109,112,111,114,116,108,105,98,46,66,117,105,108,116,105,110,73,109,112,111,114,116,101,114,46,103,101,116,95,99,111,100,101,35,111,112,97,113,117,101,6,197,10,103,101,116,95,115,111,117,114,99,101,9,51,95,102,114,111,122,101,110,95,105,109,112,111,114,116,108,105,98,46,66,117,105,108,116,105,110,73,109,112,111,114,116,101,114,46,103,101,116,95,115,111,117,114,99,101,35,111,112,97,113,117,101,6,198,10,105,115,95,112,97,99,107,97,103,101,9,51,95,102,114,111,122,101,110,95,105,109,112,111,114,116,108,105,98,46,66,117,105,108,116,105,110,73,109,112,111,114,116,101,114,46,105,115,95,112,97,99,107,97,103,101,35,111,112,97,113,117,101,6,199,11,108,111,97,100,95,109,111,100,117,108,101,9,52,95,102,114,111,122,101,110,95,105,109,112,111,114,116,108,105,98,46,66,117,105,108,116,105,110,73,109,112,111,114,116,101,114,46,108,111,97,100,95,109,111,100,117,108,101,35,111,112,97,113,117,101,6,200,21,95,95,115,116,97,116,105,99,95,97,116,116,114,105,98,117,116,101,115,95,95,4,0,0,15,6,202,8,95,95,100,105,99,116,95,95,4,0,0,16,6,204,11,95,95,119,101,97,107,114,101,102,95,95,4,0,0,17]) 0), (.bool true), (.bool true), (aS (S []) 205), (aI 21), (aS (S [6,227,10,95,95,109,111,100,117,108,101,95,95,6,217,17,95,102,114,111,122,101,110,95,105,109,112,111,114,116,108,105,98,6,228,15,95,95,102,105,114,115,116,108,105,110,101,110,111,95,95,4,218,0,562,6,229,7,95,95,100,111,99,95,95,9,47,95,102,114,111,122,101,110,95,105,109,112,111,114,116,108,105,98,46,77,111,100,117,108,101,83,112,101,99,46,95,95,100,111,99,95,95,58,115,116,114,35,111,112,97,113,117,101,6,230,8,95,95,105,110,105,116,95,95,9,44,95,102,114,111,122,101,110,95,105,109,112,111,114,116,108,105,98,46,77,111,100,117,108,101,83,112,101,99,46,95,95,105,110,105,116,95,95,35,111,112,97,113,117,101,6,231,8,95,95,114,101,112,114,95,95,9,44,95,102,114,111,122,101,110,95,105,109,112,111,114,116,108,105,98,46,77,111,100,117,108,101,83,112,101,99,46,95,95,114,101,112,114,95,95,35,111,112,97,113,117,101,6,232,6,95,95,101,113,95,95,9,42,95,102,114,111,122,101,110,95,105,109,112,111,114,116,108,105,98,46,77,111,100,117,108,101,83,112,101,99,46,95,95,101,113,95,95,35,111,112,97,113,117,101,6,233,6,99,97,99,104,101,100,9,42,95,102,114,111,122,101,110,95,105,109,112,111,114,116,108,105,98,46,77,111,100,117,108,101,83,112,101,99,46,99,97,99,104,101,100,35,111,112,97,113,117,101,6,234,6,112,97,114,101,110,116,9,42,95,102,114,111,122,101,110,95,105,109,112,111,114,116,108,105,98,46,77,111,100,117,108,101,83,112,101,99,46,112,97,114,101,110,116,35,111,112,97,113,117,101,6,235,12,104,97,115,95,108,111,99,97,116,105,111,110,9,48,95,102,114,111,122,101,110,95,105,109,112,111,114,116,108,105,98,46,77,111,100,117,108,101,83,112,101,99,46,104,97,115,95,108,111,99,97,116,105,111,110,35,111,112,97,113,117,101,6,236,21,95,95,115,116,97,116,105,99,95,97,116,116,114,105,98,117,116,101,115,95,95,4,0,0,23,6,238,8,95,95,100,105,99,116,95,95,4,0,0,24,6,240,11,95,95,119,101,97,107,114,101,102,95,95,4,0,0,25,6,241,8,95,95,104,97,115,104,95,95,0]) 0), (.bool true), (.bool true), (aS (S []) 242)]⟩ 1, ⟨[]⟩⟩
noncomputable def o19 : Obj := ⟨(.type "list"), none, .seq ⟨[]⟩ 0, ⟨[]⟩⟩
noncomputable def o20 (P : Params) : Obj := aD [aE P zS25 208 (aS zS3 207), aE P (S [108,111,97,100,101,114]) 209 (aR 14), aE P (S [111,114,105,103,105,110]) 210 (aS (S [98,117,105,108,116,45,105,110]) 184), aE P zS152 211 .none, aE P zS153 212 .none, aE P zS154 213 (aR 19), aE P zS155 214 (.bool false), aE P (S [95,99,97,99,104,101,100]) 215 .none, aE P (S [95,105,110,105,116,105,97,108,105,122,105,110,103]) 243 (.bool false)] 9
noncomputable def o21 (P : Params) : Obj := aD [aE P zS115 227 (aS zS150 217), aE P zS116 228 (.int 562 218), aE P zS2 229 (.builtin "_frozen_importlib.ModuleSpec.__doc__:str#opaque"), aE P zS43 230 (.builtin "_frozen_importlib.ModuleSpec.__init__#opaque"), aE P zS44 231 (.builtin "_frozen_importlib.ModuleSpec.__repr__#opaque"), aE P (S [95,95,101,113,95,95]) 232 (.builtin "_frozen_importlib.ModuleSpec.__eq__#opaque"), aE P (S [99,97,99,104,101,100]) 233 (.builtin "_frozen_importlib.ModuleSpec.cached#opaque"), aE P (S [112,97,114,101,110,116]) 234 (.builtin "_frozen_importlib.ModuleSpec.parent#opaque"), aE P (S [104,97,115,95,108,111,99,97,116,105,111,110]) 235 (.builtin "_frozen_importlib.ModuleSpec.has_location#opaque"), aE P zS117 236 (aR 23), aE P zS41 238 (aR 24), aE P zS42 240 (aR 25), aE P (S [95,95,104,97,115,104,95,95]) 241 .none] 13
noncomputable def o22 : Obj := ⟨(.type "type"), none, .cls { name := zS156, bases := [(.type "object")], mro := [(aR 22), (.type "object")], ns := 21, qualname := zS156, hasDict := true, slotNames := [], subclasses := [], abstract := false, collection := none, hasDel := false }, ⟨[]⟩⟩
noncomputable def o23 : Obj := aT [(aS (S [95,99,97,99,104,101,100]) 219), (aS zS155 220), (aS zS154 221), (aS (S [108,111,97,100,101,114]) 222), (aS zS152 223), (aS zS25 224), (aS (S [111,114,105,103,105,110]) 225), (aS zS153 226)]
noncomputable def o24 : Obj := ⟨(.type "getset_descriptor"), none, .fields ⟨[(aS zS41 237), (aR 22), (.builtin "function.__dict__"), (.builtin "function.__dict__#set")]⟩, ⟨[]⟩⟩
noncomputable def o25 : Obj := ⟨(.type "getset_descriptor"), none, .fields ⟨[(aS zS42 239), (aR 22), (.builtin "ExceptionGroup.__weakref__"), .none]⟩, ⟨[]⟩⟩
noncomputable def o26 : Obj := ⟨(aR 22), (some 20), .plain, ⟨[]⟩⟩
noncomputable def o27 : Obj := ⟨.none, none, .seq ⟨[(aI 11), (aS (S [6,247,8,95,95,110,97,109,101,95,95,6,246,4,95,115,114,101,6,248,7,95,95,100,111,99,95,95,0,6,250,11,95,95,112,97,99,107,97,103,101,95,95,6,249,0,6,251,10,95,95,108,111,97,100,101,114,95,95,4,0,0,14,6,252,8,95,95,115,112,101,99,95,95,4,0,0,26,6,253,7,99,111,109,112,105,108,101,9,12,95,115,114,101,46,99,111,109,112,105,108,101,6,254,8,116,101,109,112,108,97,116,101,9,13,95,115,114,101,46,116,101,109,112,108,97,116,101,6,255,11,103,101,116,99,111,100,101,115,105,122,101,9,16,95,115,114,101,46,103,101,116,99,111,100,101,115,105,122,101,6,256,13,97,115,99,105,105,95,105,115,99,97,115,101,100,9,18,95,115,114,101,46,97,115,99,105,105,95,105,115,99,97,115,101,100,6,257,15,117,110,105,99,111,100,101,95,105,115,99,97,115,101,100,9,20,95,115,114,101,46,117,110,105,99,111,100,101,95,105,115,99,97,115,101,100,6,258,13,97,115,99,105,105,95,116,111,108,111,119,101,114,9,18,95,115,114,101,46,97,115,99,105,105,95,116,111,108,111,119,101,114,6,259,15,117,110,105,99,111,100,101,95,116,111,108,111,119,101,114,9,20,95,115,114,101,46,117,110,105,99,111,100,101,95,116,111,108,111,119,101,114,6,261,5,77,65,71,73,67,4,260,0,20230612,6,263,8,67,79,68,69,83,73,90,69,4,262,0,4,6,265,9,77,65,88,82,69,80,69,65,84,4,264,0,4294967295,6,267,9,77,65,88,71,82,79,85,80,83,4,266,0,1073741823,6,269,9,99,111,112,121,114,105,103,104,116,6,268,53,32,83,82,69,32,50,46,50,46,50,32,67,111,112,121,114,105,103,104,116,32,40,99,41,32,49,57,57,55,45,50,48,48,50,32,98,121,32,83,101,99,114,101,116,32,76,97,98,115,32,65,66,32]) 0), (.bool true), (.bool false), (aS zS3 271)]⟩ 0, ⟨[]⟩⟩
noncomputable def t_z (P : Params) : BT := (aN (o0 P) (aN (o1 P) (aN (o3 P) (aN o7 (aL o15) (aL o23)) (aN (o11 P) (aL o19) (aL o27))) (aN o5 (aN o9 (aL o17) (aL o25)) (aN (o13 P) (aL (o21 P)) .nil))) (aN (o2 P) (aN o4 (aN o8 (aL o16) (aL o24)) (aN o12 (aL (o20 P)) .nil)) (aN o6 (aN o10 (aL o18) (aL o26)) (aN o14 (aL o22) .nil))))
noncomputable def o28 : Obj := aT []
noncomputable def o29 : Obj := aF []
noncomputable def o30 : Obj := ⟨(.type "code"), none, .fields ⟨[(aS zS114 277), (aS zS114 278), (aS zS0 279), (aI 1), (aI 0), (aI 0), (aI 0), (aI 0), (aR 28), (.bool false), (aI 276), (aR 29), .none, .none, .none, .none, (aI 280), (aI 1), (aS zS0 281)]⟩, ⟨[]⟩⟩
noncomputable def o31 : Obj := ⟨(.type "frame"), none, .plain, ⟨[some (aR 30), some (aR 3), some (aR 3), none, some (aS zS48 164), none, some (aR 0)]⟩⟩
noncomputable def t_b (P : Params) : BT := (aN (o0 P) (aN (o1 P) (aN (o3 P) (aN o7 (aN o15 (aL o31) .nil) (aL o23)) (aN (o11 P) (aL o19) (aL o27))) (aN o5 (aN o9 (aL o17) (aL o25)) (aN (o13 P) (aL (o21 P)) (aL o29)))) (aN (o2 P) (aN o4 (aN o8 (aL o16) (aL o24)) (aN o12 (aL (o20 P)) (aL o28))) (aN o6 (aN o10 (aL o18) (aL o26)) (aN o14 (aL o22) (aL o30)))))
noncomputable def o3_p6 (P : Params) : Obj := aD [eD67 P, eD0 P, eD1 P, eD2 P, eD3 P, eD4 P, eD5 P, eD6 P, eD7 P, eD8 P, eD9 P, eD10 P, eD11 P, eD12 P] 14
noncomputable def o29_p6 : Obj := aF [(aI 2), (aI 0), (aR 37), (aI 6), (aI 0), (aR 46), (aI 12), (aI 0), (aR 55), (aI 32), (aI 0), (aR 64)]
noncomputable def o32 : Obj := aT []
noncomputable def o33 : Obj := aF []
noncomputable def o34 : Obj := aT [(aS (S [107]) 285)]
noncomputable def o35 : Obj := aT []
noncomputable def o36 : Obj := aU zS4 zS4 (st 0)
noncomputable def o37 : Obj := aC zS4 zS4 zS0 282 283 284 1 0 2 32 286 2 287 true (aR 33) (aR 34) (aR 35) (aR 36)
noncomputable def o38 : Obj := aV zS4 zS4 (st 0) .none .none (aS zS48 164) (aR 37)
noncomputable def o39 : Obj := aT [(.int 0 291), .none]
noncomputable def o40 (P : Params) : Obj := aD [aE P zS46 292 .none] 1
noncomputable def o41 : Obj := aT []
noncomputable def o42 : Obj := aF []
noncomputable def o43 : Obj := aT [(aS (S [97]) 296), (aS (S [120]) 297), (aS (S [108,111]) 298), (aS (S [104,105]) 299), (aS zS46 300)]
noncomputable def o44 : Obj := aT []
noncomputable def o45 : Obj := aU zS5 zS5 (st 2)
noncomputable def o46 : Obj := aC zS5 zS5 zS0 293 294 295 4 1 6 41 301 6 302 true (aR 42) (aR 43) (aR 44) (aR 45)
noncomputable def o47 : Obj := aV zS5 zS5 (st 2) (aR 39) (aR 40) (aS zS121 289) (aR 46)
noncomputable def o48 : Obj := aT [(.int 0 304), .none]
noncomputable def o49 (P : Params) : Obj := aD [aE P zS46 305 .none] 1
noncomputable def o50 : Obj := aT []
noncomputable def o51 : Obj := aF []
noncomputable def o52 : Obj := aT [(aS (S [97]) 309), (aS (S [120]) 310), (aS (S [108,111]) 311), (aS (S [104,105]) 312), (aS zS46 313), (aS (S [109,105,100]) 314)]
noncomputable def o53 : Obj := aT []
noncomputable def o54 : Obj := aU zS6 zS6 (st 3)
noncomputable def o55 : Obj := aC zS6 zS6 zS0 306 307 308 4 1 12 50 315 12 316 true (aR 51) (aR 52) (aR 53) (aR 54)
noncomputable def o56 : Obj := aV zS6 zS6 (st 3) (aR 48) (aR 49) (aS zS121 289) (aR 55)
noncomputable def o57 : Obj := aT [(.int 0 318), .none]
noncomputable def o58 (P : Params) : Obj := aD [aE P zS46 319 .none] 1
noncomputable def o59 : Obj := aT []
noncomputable def o60 : Obj := aF []
noncomputable def o61 : Obj := aT [(aS (S [97]) 323), (aS (S [120]) 324), (aS (S [108,111]) 325), (aS (S [104,105]) 326), (aS zS46 327), (aS (S [109,105,100]) 328)]
noncomputable def o62 : Obj := aT []
noncomputable def o63 : Obj := aU zS7 zS7 (st 4)
noncomputable def o64 : Obj := aC zS7 zS7 zS0 320 321 322 4 1 32 59 329 32 330 true (aR 60) (aR 61) (aR 62) (aR 63)
noncomputable def o65 : Obj := aV zS7 zS7 (st 4) (aR 57) (aR 58) (aS zS121 289) (aR 64)
noncomputable def t_p6 (P : Params) : BT := (aN (o0 P) (aN (o1 P) (aN (o3_p6 P) (aN o7 (aN o15 (aN o31 (aL o63) .nil) (aL o47)) (aN o23 (aL o39) (aL o55))) (aN (o11 P) (aN o19 (aL o35) (aL o51)) (aN o27 (aL o43) (aL o59)))) (aN o5 (aN o9 (aN o17 (aN o33 (aL o65) .nil) (aL (o49 P))) (aN o25 (aL o41) (aL o57))) (aN (o13 P) (aN (o21 P) (aL o37) (aL o53)) (aN o29_p6 (aL o45) (aL o61))))) (aN (o2 P) (aN o4 (aN o8 (aN o16 (aN o32 (aL o64) .nil) (aL o48)) (aN o24 (aL (o40 P)) (aL o56))) (aN o12 (aN (o20 P) (aL o36) (aL o52)) (aN o28 (aL o44) (aL o60)))) (aN o6 (aN o10 (aN o18 (aL o34) (aL o50)) (aN o26 (aL o42) (aL (o58 P)))) (aN o14 (aN o22 (aL o38) (aL o54)) (aN o30 (aL o46) (aL o62))))))
noncomputable def o3_p7 (P : Params) : Obj := aD [eD67 P, eD0 P, eD1 P, eD2 P, eD3 P, eD4 P, eD5 P, eD6 P, eD7 P, eD8 P, eD9 P, eD10 P, eD11 P, eD12 P, eD13 P] 15
noncomputable def o66 : Obj := ⟨(.type "list"), none, .seq ⟨[(.int 173 334), (.int 847 335), (.int 6150 336), (.int 6155 337), (.int 6156 338), (.int 6157 339), (.int 8203 340), (.int 8204 341), (.int 8205 342), (.int 8288 343), (.int 65279 344)]⟩ 0, ⟨[]⟩⟩
noncomputable def o67 : Obj := ⟨(.type "range"), none, .fields ⟨[(.int 65024 345), (.int 65040 346), (.int 1 347)]⟩, ⟨[]⟩⟩
noncomputable def o68 : Obj := ⟨(.type "list"), none, .seq ⟨[(.int 65024 350), (.int 65025 351), (.int 65026 352), (.int 65027 353), (.int 65028 354), (.int 65029 355), (.int 65030 356), (.int 65031 357), (.int 65032 358), (.int 65033 359), (.int 65034 360), (.int 65035 361), (.int 65036 362), (.int 65037 363), (.int 65038 364), (.int 65039 365)]⟩ 18, ⟨[]⟩⟩
noncomputable def o69 : Obj := ⟨(.type "range_iterator"), none, .fields ⟨[(aI 65040), (aI 0), (aI 1)]⟩, ⟨[]⟩⟩
noncomputable def o70 : Obj := aT []
noncomputable def o71 : Obj := ⟨(.type "StopIteration"), none, .fields ⟨[(aR 70), .none, .none, .none, (.bool false), .none]⟩, ⟨[]⟩⟩
noncomputable def o72 : Obj := ⟨(.type "list"), none, .seq ⟨[(.int 173 334), (.int 847 335), (.int 6150 336), (.int 6155 337), (.int 6156 338), (.int 6157 339), (.int 8203 340), (.int 8204 341), (.int 8205 342), (.int 8288 343), (.int 65279 344), (.int 65024 350), (.int 65025 351), (.int 65026 352), (.int 65027 353), (.int 65028 354), (.int 65029 355), (.int 65030 356), (.int 65031 357), (.int 65032 358), (.int 65033 359), (.int 65034 360), (.int 65035 361), (.int 65036 362), (.int 65037 363), (.int 65038 364), (.int 65039 365)]⟩ 0, ⟨[]⟩⟩
noncomputable def o73 (P : Params) : Obj := ⟨(.type "set"), none, .set ⟨[(65024, (.int 65024 350)), (65025, (.int 65025 351)), (65026, (.int 65026 352)), (65027, (.int 65027 353)), (65028, (.int 65028 354)), (65029, (.int 65029 355)), (6150, (.int 6150 336)), (65030, (.int 65030 356)), (65031, (.int 65031 357)), (65032, (.int 65032 358)), (65033, (.int 65033 359)), (6155, (.int 6155 337)), (6156, (.int 6156 338)), (6157, (.int 6157 339)), (8203, (.int 8203 340)), (8204, (.int 8204 341)), (8205, (.int 8205 342)), (65034, (.int 65034 360)), (65035, (.int 65035 361)), (65036, (.int 65036 362)), (65037, (.int 65037 363)), (65038, (.int 65038 364)), (65039, (.int 65039 365)), (173, (.int 173 334)), (847, (.int 847 335)), (8288, (.int 8288 343)), (65279, (.int 65279 344))]⟩ 29 { mask := 127, place := ⟨[0,1,2,3,4,5,6,7,8,9,10,11,12,13,14,15,16,17,18,19,20,21,22,45,79,96,127]⟩, dummies := ⟨[]⟩, finger := 0, led := (!P.followText "set-order"), moves := 2, plain := true }, ⟨[]⟩⟩
noncomputable def o74 : Obj := ⟨(.type "list_iterator"), none, .fields ⟨[.none, (aI 27)]⟩, ⟨[]⟩⟩
noncomputable def o75 : Obj := aT []
noncomputable def o76 : Obj := ⟨(.type "StopIteration"), none, .fields ⟨[(aR 75), .none, .none, .none, (.bool false), .none]⟩, ⟨[]⟩⟩
noncomputable def t_p7 (P : Params) : BT := (aN (o0 P) (aN (o1 P) (aN (o3_p7 P) (aN o7 (aN o15 (aN o31 (aL o63) .nil) (aL o47)) (aN o23 (aN o39 (aL o71) .nil) (aL o55))) (aN (o11 P) (aN o19 (aN o35 (aL o67) .nil) (aL o51)) (aN o27 (aN o43 (aL o75) .nil) (aL o59)))) (aN o5 (aN o9 (aN o17 (aN o33 (aL o65) .nil) (aL (o49 P))) (aN o25 (aN o41 (aL (o73 P)) .nil) (aL o57))) (aN (o13 P) (aN (o21 P) (aN o37 (aL o69) .nil) (aL o53)) (aN o29_p6 (aL o45) (aL o61))))) (aN (o2 P) (aN o4 (aN o8 (aN o16 (aN o32 (aL o64) .nil) (aL o48)) (aN o24 (aN (o40 P) (aL o72) .nil) (aL o56))) (aN o12 (aN (o20 P) (aN o36 (aL o68) .nil) (aL o52)) (aN o28 (aN o44 (aL o76) .nil) (aL o60)))) (aN o6 (aN o10 (aN o18 (aN o34 (aL o66) .nil) (aL o50)) (aN o26 (aN o42 (aL o74) .nil) (aL (o58 P)))) (aN o14 (aN o22 (aN o38 (aL o70) .nil) (aL o54)) (aN o30 (aL o46) (aL o62))))))
noncomputable def o3_p8 (P : Params) : Obj := aD [eD67 P, eD0 P, eD1 P, eD2 P, eD3 P, eD4 P, eD5 P, eD6 P, eD7 P, eD8 P, eD9 P, eD10 P, eD11 P, eD12 P, eD13 P, eD14 P] 16
noncomputable def o29_p8 : Obj := aF [(aI 2), (aI 0), (aR 37), (aI 6), (aI 0), (aR 46), (aI 12), (aI 0), (aR 55), (aI 32), (aI 0), (aR 64), (aI 54), (aI 0), (aR 82)]
noncomputable def o77 : Obj := aT []
noncomputable def o78 : Obj := aF []
noncomputable def o79 : Obj := aT [(aS (S [99,111,100,101]) 397)]
noncomputable def o80 : Obj := aT []
noncomputable def o81 : Obj := aU zS13 zS13 (st 7)
noncomputable def o82 : Obj := aC zS13 zS13 zS0 394 395 396 1 0 54 77 398 54 399 true (aR 78) (aR 79) (aR 80) (aR 81)
noncomputable def o83 : Obj := aV zS13 zS13 (st 7) .none .none (aS zS45 332) (aR 82)
noncomputable def t_p8 (P : Params) : BT := (aN (o0 P) (aN (o1 P) (aN (o3_p8 P) (aN o7 (aN o15 (aN o31 (aL o63) .nil) (aN o47 (aL o79) .nil)) (aN o23 (aN o39 (aL o71) .nil) (aL o55))) (aN (o11 P) (aN o19 (aN o35 (aL o67) .nil) (aN o51 (aL o83) .nil)) (aN o27 (aN o43 (aL o75) .nil) (aL o59)))) (aN o5 (aN o9 (aN o17 (aN o33 (aL o65) .nil) (aN (o49 P) (aL o81) .nil)) (aN o25 (aN o41 (aL (o73 P)) .nil) (aL o57))) (aN (o13 P) (aN (o21 P) (aN o37 (aL o69) .nil) (aL o53)) (aN o29_p8 (aN o45 (aL o77) .nil) (aL o61))))) (aN (o2 P) (aN o4 (aN o8 (aN o16 (aN o32 (aL o64) .nil) (aN o48 (aL o80) .nil)) (aN o24 (aN (o40 P) (aL o72) .nil) (aL o56))) (aN o12 (aN (o20 P) (aN o36 (aL o68) .nil) (aL o52)) (aN o28 (aN o44 (aL o76) .nil) (aL o60)))) (aN o6 (aN o10 (aN o18 (aN o34 (aL o66) .nil) (aN o50 (aL o82) .nil)) (aN o26 (aN o42 (aL o74) .nil) (aL (o58 P)))) (aN o14 (aN o22 (aN o38 (aL o70) .nil) (aL o54)) (aN o30 (aN o46 (aL o78) .nil) (aL o62))))))
noncomputable def o3_p9 (P : Params) : Obj := aD [eD67 P, eD0 P, eD1 P, eD2 P, eD3 P, eD4 P, eD5 P, eD6 P, eD7 P, eD8 P, eD9 P, eD10 P, eD11 P, eD12 P, eD13 P, eD14 P, eD15 P] 17
noncomputable def t_p9 (P : Params) : BT := (aN (o0 P) (aN (o1 P) (aN (o3_p9 P) (aN o7 (aN o15 (aN o31 (aL o63) (aL o95)) (aN o47 (aL o79) (aL o111))) (aN o23 (aN o39 (aL o71) (aL o103)) (aN o55 (aL o87) (aL o119)))) (aN (o11 P) (aN o19 (aN o35 (aL o67) (aL o99)) (aN o51 (aL o83) (aL o115))) (aN o27 (aN o43 (aL o75) (aL o107)) (aN o59 (aL o91) .nil)))) (aN o5 (aN o9 (aN o17 (aN o33 (aL o65) (aL o97)) (aN (o49 P) (aL o81) (aL o113))) (aN o25 (aN o41 (aL (o73 P)) (aL o105)) (aN o57 (aL o89) (aL o121)))) (aN (o13 P) (aN (o21 P) (aN o37 (aL o69) (aL o101)) (aN o53 (aL o85) (aL o117))) (aN o29_p8 (aN o45 (aL o77) (aL o109)) (aN o61 (aL o93) .nil))))) (aN (o2 P) (aN o4 (aN o8 (aN o16 (aN o32 (aL o64) (aL o96)) (aN o48 (aL o80) (aL o112))) (aN o24 (aN (o40 P) (aL o72) (aL o104)) (aN o56 (aL o88) (aL o120)))) (aN o12 (aN (o20 P) (aN o36 (aL o68) (aL o100)) (aN o52 (aL o84) (aL o116))) (aN o28 (aN o44 (aL o76) (aL o108)) (aN o60 (aL o92) .nil)))) (aN o6 (aN o10 (aN o18 (aN o34 (aL o66) (aL o98)) (aN o50 (aL o82) (aL o114))) (aN o26 (aN o42 (aL o74) (aL o106)) (aN (o58 P) (aL o90) (aL o122)))) (aN o14 (aN o22 (aN o38 (aL o70) (aL o102)) (aN o54 (aL o86) (aL o118))) (aN o30 (aN o46 (aL o78) (aL o110)) (aN o62 (aL o94) .nil))))))
noncomputable def o3_p61 (P : Params) : Obj := aD [aE P zS9 165 (aS zS49 2360), eD0 P, eD1 P, eD2 P, eD3 P, eD4 P, eD5 P, eD6 P, eD7 P, eD8 P, eD9 P, eD10 P, eD11 P, eD12 P, eD13 P, eD14 P, eD15 P, eD16 P, eD17 P, eD18 P, eD19 P, eD20 P, eD21 P, eD22 P, eD23 P, eD24 P, eD25 P, eD26 P, eD27 P, eD28 P, eD29 P, eD30 P, eD31 P, eD32 P, eD33 P, eD34 P, eD35 P, eD36 P, eD37 P, eD38 P, eD39 P, eD40 P, eD41 P, eD42 P, eD43 P, eD44 P, eD45 P, eD46 P, eD47 P, eD48 P, eD49 P, eD50 P, eD51 P, eD52 P, eD53 P, eD54 P, eD55 P, eD56 P, eD57 P, eD58 P, eD59 P, eD60 P, eD61 P, eD62 P, eD63 P, eD64 P, eD65 P, eD66 P] 68
noncomputable def o29_p61 : Obj := aF [(aI 2), (aI 0), (aR 37), (aI 6), (aI 0), (aR 46), (aI 12), (aI 0), (aR 55), (aI 32), (aI 0), (aR 64), (aI 54), (aI 0), (aR 82), (aI 57), (aI 0), (aR 128)]
noncomputable def o123 : Obj := aT []
noncomputable def o124 : Obj := aF []
noncomputable def o125 : Obj := aT [(aS (S [99,111,100,101]) 2355), (aS (S [114]) 2356)]
noncomputable def o126 : Obj := aT []
noncomputable def o127 : Obj := aU zS15 zS15 (st 9)
noncomputable def o128 : Obj := aC zS15 zS15 zS0 2352 2353 2354 1 0 57 123 2357 57 2358 true (aR 124) (aR 125) (aR 126) (aR 127)
noncomputable def o129 : Obj := aV zS15 zS15 (st 9) .none .none (aS zS45 332) (aR 128)
noncomputable def t_p61 (P : Params) : BT := (aN (o0 P) (aN (o1 P) (aN (o3_p61 P) (aN o7 (aN o15 (aN o31 (aN o63 (aL o127) .nil) (aL o95)) (aN o47 (aL o79) (aL o111))) (aN o23 (aN o39 (aL o71) (aL o103)) (aN o55 (aL o87) (aL o119)))) (aN (o11 P) (aN o19 (aN o35 (aL o67) (aL o99)) (aN o51 (aL o83) (aL o115))) (aN o27 (aN o43 (aL o75) (aL o107)) (aN o59 (aL o91) (aL o123))))) (aN o5 (aN o9 (aN o17 (aN o33 (aN o65 (aL o129) .nil) (aL o97)) (aN (o49 P) (aL o81) (aL o113))) (aN o25 (aN o41 (aL (o73 P)) (aL o105)) (aN o57 (aL o89) (aL o121)))) (aN (o13 P) (aN (o21 P) (aN o37 (aL o69) (aL o101)) (aN o53 (aL o85) (aL o117))) (aN o29_p61 (aN o45 (aL o77) (aL o109)) (aN o61 (aL o93) (aL o125)))))) (aN (o2 P) (aN o4 (aN o8 (aN o16 (aN o32 (aN o64 (aL o128) .nil) (aL o96)) (aN o48 (aL o80) (aL o112))) (aN o24 (aN (o40 P) (aL o72) (aL o104)) (aN o56 (aL o88) (aL o120)))) (aN o12 (aN (o20 P) (aN o36 (aL o68) (aL o100)) (aN o52 (aL o84) (aL o116))) (aN o28 (aN o44 (aL o76) (aL o108)) (aN o60 (aL o92) (aL o124))))) (aN o6 (aN o10 (aN o18 (aN o34 (aL o66) (aL o98)) (aN o50 (aL o82) (aL o114))) (aN o26 (aN o42 (aL o74) (aL o106)) (aN (o58 P) (aL o90) (aL o122)))) (aN o14 (aN o22 (aN o38 (aL o70) (aL o102)) (aN o54 (aL o86) (aL o118))) (aN o30 (aN o46 (aL o78) (aL o110)) (aN o62 (aL o94) (aL o126)))))))
noncomputable def o3_p62 (P : Params) : Obj := aD [aE P zS9 165 (aS zS49 2360), eD0 P, eD1 P, eD2 P, eD3 P, eD4 P, eD5 P, eD6 P, eD7 P, eD8 P, eD9 P, eD10 P, eD11 P, eD12 P, eD13 P, eD14 P, eD15 P, eD16 P, eD17 P, eD18 P, eD19 P, eD20 P, eD21 P, eD22 P, eD23 P, eD24 P, eD25 P, eD26 P, eD27 P, eD28 P, eD29 P, eD30 P, eD31 P, eD32 P, eD33 P, eD34 P, eD35 P, eD36 P, eD37 P, eD38 P, eD39 P, eD40 P, eD41 P, eD42 P, eD43 P, eD44 P, eD45 P, eD46 P, eD47 P, eD48 P, eD49 P, eD50 P, eD51 P, eD52 P, eD53 P, eD54 P, eD55 P, eD56 P, eD57 P, eD58 P, eD59 P, eD60 P, eD61 P, eD62 P, eD63 P, eD64 P, eD65 P, eD66 P, eD68 P] 69
noncomputable def o130 (P : Params) : Obj := aD [aE P (S [33]) 2462 (.int 54 2458), aE P (S [33,61]) 2464 (.int 28 2406), aE P (S [37]) 2466 (.int 24 2398), aE P (S [37,61]) 2468 (.int 40 2430), aE P (S [38]) 2470 (.int 19 2388), aE P (S [38,61]) 2472 (.int 41 2432), aE P (S [40]) 2474 (.int 7 2364), aE P (S [41]) 2476 (.int 8 2366), aE P (S [42]) 2478 (.int 16 2382), aE P (S [42,42]) 2480 (.int 35 2420), aE P (S [42,42,61]) 2482 (.int 46 2442), aE P (S [42,61]) 2484 (.int 38 2426), aE P (S [43]) 2486 (.int 14 2378), aE P (S [43,61]) 2488 (.int 36 2422), aE P (S [44]) 2490 (.int 12 2374), aE P (S [45]) 2492 (.int 15 2380), aE P (S [45,61]) 2494 (.int 37 2424), aE P (S [45,62]) 2496 (.int 51 2452), aE P (S [46]) 2498 (.int 23 2396), aE P (S [46,46,46]) 2500 (.int 52 2454), aE P (S [47]) 2502 (.int 17 2384), aE P (S [47,47]) 2504 (.int 47 2444), aE P (S [47,47,61]) 2506 (.int 48 2446), aE P (S [47,61]) 2508 (.int 39 2428), aE P (S [58]) 2510 (.int 11 2372), aE P (S [58,61]) 2512 (.int 53 2456), aE P (S [59]) 2514 (.int 13 2376), aE P (S [60]) 2516 (.int 20 2390), aE P (S [60,60]) 2518 (.int 33 2416), aE P (S [60,60,61]) 2520 (.int 44 2438), aE P (S [60,61]) 2522 (.int 29 2408), aE P (S [61]) 2524 (.int 22 2394), aE P (S [61,61]) 2526 (.int 27 2404), aE P (S [62]) 2528 (.int 21 2392), aE P (S [62,61]) 2530 (.int 30 2410), aE P (S [62,62]) 2531 (.int 34 2418), aE P (S [62,62,61]) 2532 (.int 45 2440), aE P (S [64]) 2533 (.int 49 2448), aE P (S [64,61]) 2534 (.int 50 2450), aE P (S [91]) 2535 (.int 9 2368), aE P (S [93]) 2536 (.int 10 2370), aE P (S [94]) 2537 (.int 32 2414), aE P (S [94,61]) 2538 (.int 43 2436), aE P (S [123]) 2539 (.int 25 2400), aE P (S [124]) 2540 (.int 18 2386), aE P (S [124,61]) 2541 (.int 42 2434), aE P (S [125]) 2542 (.int 26 2402), aE P (S [126]) 2543 (.int 31 2412)] 48
noncomputable def o131 (P : Params) : Obj := aD [aE P (S [45,62]) 2496 (.int 51 2452), aE P (S [46]) 2498 (.int 23 2396), aE P (S [46,46,46]) 2500 (.int 52 2454), aE P (S [47]) 2502 (.int 17 2384), aE P (S [47,47]) 2504 (.int 47 2444), aE P (S [47,47,61]) 2506 (.int 48 2446), aE P (S [47,61]) 2508 (.int 39 2428), aE P (S [58]) 2510 (.int 11 2372), aE P (S [58,61]) 2512 (.int 53 2456), aE P (S [59]) 2514 (.int 13 2376), aE P (S [60]) 2516 (.int 20 2390), aE P (S [60,60]) 2518 (.int 33 2416), aE P (S [60,60,61]) 2520 (.int 44 2438), aE P (S [60,61]) 2522 (.int 29 2408), aE P (S [61]) 2524 (.int 22 2394), aE P (S [61,61]) 2526 (.int 27 2404), aE P (S [62]) 2528 (.int 21 2392)] 17
noncomputable def o132 (P : Params) : Obj := aD [aE P (S [62,61]) 2530 (.int 30 2410), aE P (S [62,62]) 2531 (.int 34 2418), aE P (S [62,62,61]) 2532 (.int 45 2440), aE P (S [64]) 2533 (.int 49 2448), aE P (S [64,61]) 2534 (.int 50 2450), aE P (S [91]) 2535 (.int 9 2368), aE P (S [93]) 2536 (.int 10 2370), aE P (S [94]) 2537 (.int 32 2414), aE P (S [94,61]) 2538 (.int 43 2436), aE P (S [123]) 2539 (.int 25 2400), aE P (S [124]) 2540 (.int 18 2386), aE P (S [124,61]) 2541 (.int 42 2434), aE P (S [125]) 2542 (.int 26 2402), aE P (S [126]) 2543 (.int 31 2412)] 14
noncomputable def t_p62 (P : Params) : BT := (aN (o0 P) (aN (o1 P) (aN (o3_p62 P) (aN o7 (aN o15 (aN o31 (aN o63 (aL o127) .nil) (aL o95)) (aN o47 (aL o79) (aL o111))) (aN o23 (aN o39 (aL o71) (aL o103)) (aN o55 (aL o87) (aL o119)))) (aN (o11 P) (aN o19 (aN o35 (aN o67 (aL (o131 P)) .nil) (aL o99)) (aN o51 (aL o83) (aL o115))) (aN o27 (aN o43 (aL o75) (aL o107)) (aN o59 (aL o91) (aL o123))))) (aN o5 (aN o9 (aN o17 (aN o33 (aN o65 (aL o129) .nil) (aL o97)) (aN (o49 P) (aL o81) (aL o113))) (aN o25 (aN o41 (aL (o73 P)) (aL o105)) (aN o57 (aL o89) (aL o121)))) (aN (o13 P) (aN (o21 P) (aN o37 (aL o69) (aL o101)) (aN o53 (aL o85) (aL o117))) (aN o29_p61 (aN o45 (aL o77) (aL o109)) (aN o61 (aL o93) (aL o125)))))) (aN (o2 P) (aN o4 (aN o8 (aN o16 (aN o32 (aN o64 (aL o128) .nil) (aL o96)) (aN o48 (aL o80) (aL o112))) (aN o24 (aN (o40 P) (aL o72) (aL o104)) (aN o56 (aL o88) (aL o120)))) (aN o12 (aN (o20 P) (aN o36 (aN o68 (aL (o132 P)) .nil) (aL o100)) (aN o52 (aL o84) (aL o116))) (aN o28 (aN o44 (aL o76) (aL o108)) (aN o60 (aL o92) (aL o124))))) (aN o6 (aN o10 (aN o18 (aN o34 (aN o66 (aL (o130 P)) .nil) (aL o98)) (aN o50 (aL o82) (aL o114))) (aN o26 (aN o42 (aL o74) (aL o106)) (aN (o58 P) (aL o90) (aL o122)))) (aN o14 (aN o22 (aN o38 (aL o70) (aL o102)) (aN o54 (aL o86) (aL o118))) (aN o30 (aN o46 (aL o78) (aL o110)) (aN o62 (aL o94) (aL o126)))))))
noncomputable def o3_p70 (P : Params) : Obj := aD [aE P zS9 165 (aS zS1 2580), eD0 P, eD1 P, eD2 P, eD3 P, eD4 P, eD5 P, eD6 P, eD7 P, eD8 P, eD9 P, eD10 P, eD11 P, eD12 P, eD13 P, eD14 P, eD15 P, eD16 P, eD17 P, eD18 P, eD19 P, eD20 P, eD21 P, eD22 P, eD23 P, eD24 P, eD25 P, eD26 P, eD27 P, eD28 P, eD29 P, eD30 P, eD31 P, eD32 P, eD33 P, eD34 P, eD35 P, eD36 P, eD37 P, eD38 P, eD39 P, eD40 P, eD41 P, eD42 P, eD43 P, eD44 P, eD45 P, eD46 P, eD47 P, eD48 P, eD49 P, eD50 P, eD51 P, eD52 P, eD53 P, eD54 P, eD55 P, eD56 P, eD57 P, eD58 P, eD59 P, eD60 P, eD61 P, eD62 P, eD63 P, eD64 P, eD65 P, eD66 P, eD68 P, aE P zS20 2565 (aR 139), aE P zS21 2572 (aR 146), aE P zS22 2579 (aR 153), aE P zS122 2615 (aR 158), aE P zS123 2641 (aR 163), aE P zS124 2675 (aR 168), aE P zS23 2685 (aR 176)] 76
noncomputable def o29_p70 : Obj := aF [(aI 2), (aI 0), (aR 37), (aI 6), (aI 0), (aR 46), (aI 12), (aI 0), (aR 55), (aI 32), (aI 0), (aR 64), (aI 54), (aI 0), (aR 82), (aI 57), (aI 0), (aR 128), (aI 114), (aI 0), (aR 138), (aI 116), (aI 0), (aR 145), (aI 118), (aI 0), (aR 152), (aI 124), (aI 0), (aR 175)]
noncomputable def o133 : Obj := aT []
noncomputable def o134 : Obj := aF []
noncomputable def o135 : Obj := aT [(aS (S [120]) 2562)]
noncomputable def o136 : Obj := aT []
noncomputable def o137 : Obj := aU zS20 zS20 (st 62)
noncomputable def o138 : Obj := aC zS20 zS20 zS0 2559 2560 2561 1 0 114 133 2563 114 2564 true (aR 134) (aR 135) (aR 136) (aR 137)
noncomputable def o139 : Obj := aV zS20 zS20 (st 62) .none .none (aS zS49 2360) (aR 138)
noncomputable def o140 : Obj := aT []
noncomputable def o141 : Obj := aF []
noncomputable def o142 : Obj := aT [(aS (S [120]) 2569)]
noncomputable def o143 : Obj := aT []
noncomputable def o144 : Obj := aU zS21 zS21 (st 63)
noncomputable def o145 : Obj := aC zS21 zS21 zS0 2566 2567 2568 1 0 116 140 2570 116 2571 true (aR 141) (aR 142) (aR 143) (aR 144)
noncomputable def o146 : Obj := aV zS21 zS21 (st 63) .none .none (aS zS49 2360) (aR 145)
noncomputable def o147 : Obj := aT []
noncomputable def o148 : Obj := aF []
noncomputable def o149 : Obj := aT [(aS (S [120]) 2576)]
noncomputable def o150 : Obj := aT []
noncomputable def o151 : Obj := aU zS22 zS22 (st 64)
noncomputable def o152 : Obj := aC zS22 zS22 zS0 2573 2574 2575 1 0 118 147 2577 118 2578 true (aR 148) (aR 149) (aR 150) (aR 151)
noncomputable def o153 : Obj := aV zS22 zS22 (st 64) .none .none (aS zS49 2360) (aR 152)
noncomputable def o154 : Obj := ⟨(.type "list"), none, .seq ⟨[(.int 14 2585), (.int 14 2586), (.int 4 2587), (.int 1 2588), (.int 1 2589), (.int 9 2590), (.int 0 2591), (.int 4227896069 2592), (.int 939524097 2593), (.int 0 2594), (.int 0 2595), (.int 0 2596), (.int 0 2597), (.int 0 2598), (.int 0 2599), (.int 13 2600), (.int 11 2601), (.int 9 2602), (.int 0 2603), (.int 4227896069 2604), (.int 939524097 2605), (.int 0 2606), (.int 0 2607), (.int 0 2608), (.int 0 2609), (.int 0 2610), (.int 0 2611), (.int 1 2612)]⟩ 0, ⟨[]⟩⟩
noncomputable def o155 : Obj := aD [] 0
noncomputable def o156 : Obj := aT [.none]
noncomputable def o157 : Obj := aT [(aI 14), (aI 14), (aI 4), (aI 1), (aI 1), (aI 9), (aI 0), (aI 4227896069), (aI 939524097), (aI 0), (aI 0), (aI 0), (aI 0), (aI 0), (aI 0), (aI 13), (aI 11), (aI 9), (aI 0), (aI 4227896069), (aI 939524097), (aI 0), (aI 0), (aI 0), (aI 0), (aI 0), (aI 0), (aI 1)]
noncomputable def o158 : Obj := ⟨(.type "re.Pattern"), none, .fields ⟨[(aS (S [91,32,92,40,92,41,60,62,64,44,59,58,92,92,34,47,92,91,92,93,92,63,61,93]) 2583), (.int 32 2614), (aI 0), .none, .none, (aR 157), (aI 0)]⟩, ⟨[]⟩⟩
noncomputable def o159 : Obj := ⟨(.type "list"), none, .seq ⟨[(.int 14 2619), (.int 10 2620), (.int 4 2621), (.int 1 2622), (.int 1 2623), (.int 22 2624), (.int 0 2625), (.int 31 2626), (.int 16 2627), (.int 127 2628), (.int 0 2629), (.int 13 2630), (.int 7 2631), (.int 22 2632), (.int 0 2633), (.int 31 2634), (.int 16 2635), (.int 127 2636), (.int 0 2637), (.int 1 2638)]⟩ 0, ⟨[]⟩⟩
noncomputable def o160 : Obj := aD [] 0
noncomputable def o161 : Obj := aT [.none]
noncomputable def o162 : Obj := aT [(aI 14), (aI 10), (aI 4), (aI 1), (aI 1), (aI 22), (aI 0), (aI 31), (aI 16), (aI 127), (aI 0), (aI 13), (aI 7), (aI 22), (aI 0), (aI 31), (aI 16), (aI 127), (aI 0), (aI 1)]
noncomputable def o163 : Obj := ⟨(.type "re.Pattern"), none, .fields ⟨[(aS (S [91,92,120,48,48,45,92,120,49,70,92,120,55,70,93]) 2617), (.int 32 2640), (aI 0), .none, .none, (aR 162), (aI 0)]⟩, ⟨[]⟩⟩
noncomputable def o164 : Obj := ⟨(.type "list"), none, .seq ⟨[(.int 14 2645), (.int 14 2646), (.int 4 2647), (.int 1 2648), (.int 1 2649), (.int 9 2650), (.int 4294966783 2651), (.int 0 2652), (.int 0 2653), (.int 2147483648 2654), (.int 0 2655), (.int 0 2656), (.int 0 2657), (.int 0 2658), (.int 0 2659), (.int 13 2660), (.int 11 2661), (.int 9 2662), (.int 4294966783 2663), (.int 0 2664), (.int 0 2665), (.int 2147483648 2666), (.int 0 2667), (.int 0 2668), (.int 0 2669), (.int 0 2670), (.int 0 2671), (.int 1 2672)]⟩ 0, ⟨[]⟩⟩
noncomputable def o165 : Obj := aD [] 0
noncomputable def o166 : Obj := aT [.none]
noncomputable def o167 : Obj := aT [(aI 14), (aI 14), (aI 4), (aI 1), (aI 1), (aI 9), (aI 4294966783), (aI 0), (aI 0), (aI 2147483648), (aI 0), (aI 0), (aI 0), (aI 0), (aI 0), (aI 13), (aI 11), (aI 9), (aI 4294966783), (aI 0), (aI 0), (aI 2147483648), (aI 0), (aI 0), (aI 0), (aI 0), (aI 0), (aI 1)]
noncomputable def o168 : Obj := ⟨(.type "re.Pattern"), none, .fields ⟨[(aS (S [91,92,120,48,48,45,92,120,48,56,92,120,48,65,45,92,120,49,70,92,120,55,70,93]) 2643), (.int 32 2674), (aI 0), .none, .none, (aR 167), (aI 0)]⟩, ⟨[]⟩⟩
noncomputable def o169 : Obj := aT [.none, (.int 1 2676)]
noncomputable def o170 : Obj := aT []
noncomputable def o171 : Obj := aF []
noncomputable def o172 : Obj := aT [(aS (S [112,97,114,97,109]) 2680), (aS zS125 2681), (aS (S [113,117,111,116,101]) 2682)]
noncomputable def o173 : Obj := aT []
noncomputable def o174 : Obj := aU zS23 zS23 (st 69)
noncomputable def o175 : Obj := aC zS23 zS23 zS0 2677 2678 2679 3 0 124 170 2683 124 2684 true (aR 171) (aR 172) (aR 173) (aR 174)
noncomputable def o176 : Obj := aV zS23 zS23 (st 69) (aR 169) .none (aS zS1 2580) (aR 175)
noncomputable def t_p70 (P : Params) : BT := (aN (o0 P) (aN (o1 P) (aN (o3_p70 P) (aN o7 (aN o15 (aN o31 (aN o63 (aL o127) .nil) (aN o95 (aL o159) .nil)) (aN o47 (aN o79 (aL o143) .nil) (aN o111 (aL o175) .nil))) (aN o23 (aN o39 (aN o71 (aL o135) .nil) (aN o103 (aL o167) .nil)) (aN o55 (aN o87 (aL o151) .nil) (aL o119)))) (aN (o11 P) (aN o19 (aN o35 (aN o67 (aL (o131 P)) .nil) (aN o99 (aL o163) .nil)) (aN o51 (aN o83 (aL o147) .nil) (aL o115))) (aN o27 (aN o43 (aN o75 (aL o139) .nil) (aN o107 (aL o171) .nil)) (aN o59 (aN o91 (aL o155) .nil) (aL o123))))) (aN o5 (aN o9 (aN o17 (aN o33 (aN o65 (aL o129) .nil) (aN o97 (aL o161) .nil)) (aN (o49 P) (aN o81 (aL o145) .nil) (aL o113))) (aN o25 (aN o41 (aN (o73 P) (aL o137) .nil) (aN o105 (aL o169) .nil)) (aN o57 (aN o89 (aL o153) .nil) (aL o121)))) (aN (o13 P) (aN (o21 P) (aN o37 (aN o69 (aL o133) .nil) (aN o101 (aL o165) .nil)) (aN o53 (aN o85 (aL o149) .nil) (aL o117))) (aN o29_p70 (aN o45 (aN o77 (aL o141) .nil) (aN o109 (aL o173) .nil)) (aN o61 (aN o93 (aL o157) .nil) (aL o125)))))) (aN (o2 P) (aN o4 (aN o8 (aN o16 (aN o32 (aN o64 (aL o128) .nil) (aN o96 (aL o160) .nil)) (aN o48 (aN o80 (aL o144) .nil) (aN o112 (aL o176) .nil))) (aN o24 (aN (o40 P) (aN o72 (aL o136) .nil) (aN o104 (aL o168) .nil)) (aN o56 (aN o88 (aL o152) .nil) (aL o120)))) (aN o12 (aN (o20 P) (aN o36 (aN o68 (aL (o132 P)) .nil) (aN o100 (aL o164) .nil)) (aN o52 (aN o84 (aL o148) .nil) (aL o116))) (aN o28 (aN o44 (aN o76 (aL o140) .nil) (aN o108 (aL o172) .nil)) (aN o60 (aN o92 (aL o156) .nil) (aL o124))))) (aN o6 (aN o10 (aN o18 (aN o34 (aN o66 (aL (o130 P)) .nil) (aN o98 (aL o162) .nil)) (aN o50 (aN o82 (aL o146) .nil) (aL o114))) (aN o26 (aN o42 (aN o74 (aL o138) .nil) (aN o106 (aL o170) .nil)) (aN (o58 P) (aN o90 (aL o154) .nil) (aL o122)))) (aN o14 (aN o22 (aN o38 (aN o70 (aL o134) .nil) (aN o102 (aL o166) .nil)) (aN o54 (aN o86 (aL o150) .nil) (aL o118))) (aN o30 (aN o46 (aN o78 (aL o142) .nil) (aN o110 (aL o174) .nil)) (aN o62 (aN o94 (aL o158) .nil) (aL o126)))))))
noncomputable def o3_p71 (P : Params) : Obj := aD [aE P zS9 165 (aS zS1 2580), eD0 P, eD1 P, eD2 P, eD3 P, eD4 P, eD5 P, eD6 P, eD7 P, eD8 P, eD9 P, eD10 P, eD11 P, eD12 P, eD13 P, eD14 P, eD15 P, eD16 P, eD17 P, eD18 P, eD19 P, eD20 P, eD21 P, eD22 P, eD23 P, eD24 P, eD25 P, eD26 P, eD27 P, eD28 P, eD29 P, eD30 P, eD31 P, eD32 P, eD33 P, eD34 P, eD35 P, eD36 P, eD37 P, eD38 P, eD39 P, eD40 P, eD41 P, eD42 P, eD43 P, eD44 P, eD45 P, eD46 P, eD47 P, eD48 P, eD49 P, eD50 P, eD51 P, eD52 P, eD53 P, eD54 P, eD55 P, eD56 P, eD57 P, eD58 P, eD59 P, eD60 P, eD61 P, eD62 P, eD63 P, eD64 P, eD65 P, eD66 P, eD68 P, aE P zS20 2565 (aR 139), aE P zS21 2572 (aR 146), aE P zS22 2579 (aR 153), aE P zS122 2615 (aR 158), aE P zS123 2641 (aR 163), aE P zS124 2675 (aR 168), aE P zS23 2685 (aR 176), aE P zS24 2842 (aR 297)] 77
noncomputable def o29_p71 : Obj := aF [(aI 2), (aI 0), (aR 37), (aI 6), (aI 0), (aR 46), (aI 12), (aI 0), (aR 55), (aI 32), (aI 0), (aR 64), (aI 54), (aI 0), (aR 82), (aI 57), (aI 0), (aR 128), (aI 114), (aI 0), (aR 138), (aI 116), (aI 0), (aR 145), (aI 118), (aI 0), (aR 152), (aI 124), (aI 0), (aR 175), (aI 133), (aI 0), (aR 182)]
noncomputable def o177 : Obj := aT []
noncomputable def o178 : Obj := ⟨(.type "builtin_function_or_method"), none, .fields ⟨[(.builtin "type.__prepare__"), (.type "type")]⟩, ⟨[]⟩⟩
noncomputable def o179 (P : Params) : Obj := aD [aE P zS115 2693 (aS zS1 2580), aE P (S [95,95,113,117,97,108,110,97,109,101,95,95]) 2695 (aS zS24 2694), aE P zS116 2697 (.int 133 2696), aE P zS43 2707 (aR 191), aE P zS99 2717 (aR 198), aE P zS100 2724 (aR 205), aE P zS101 2733 (aR 212), aE P zS102 2739 (aR 217), aE P zS103 2747 (aR 224), aE P zS104 2755 (aR 231), aE P zS105 2761 (aR 236), aE P zS106 2772 (aR 244), aE P zS107 2778 (aR 249), aE P zS108 2784 (aR 254), aE P zS109 2791 (aR 261), aE P zS44 2798 (aR 268), aE P zS110 2804 (aR 273), aE P zS111 2811 (aR 280), aE P zS112 2820 (aR 287), aE P zS113 2833 (aR 294), aE P zS117 2835 (aR 295)] 21
noncomputable def o180 : Obj := aT []
noncomputable def o181 : Obj := aF [(aI 135), (aI 4), (aR 190), (aI 145), (aI 4), (aR 197), (aI 153), (aI 4), (aR 204), (aI 156), (aI 4), (aR 211), (aI 160), (aI 4), (aR 216), (aI 164), (aI 4), (aR 223), (aI 167), (aI 4), (aR 230), (aI 170), (aI 4), (aR 235), (aI 174), (aI 4), (aR 243), (aI 181), (aI 4), (aR 248), (aI 184), (aI 4), (aR 253), (aI 187), (aI 4), (aR 260), (aI 190), (aI 4), (aR 267), (aI 193), (aI 4), (aR 272), (aI 196), (aI 4), (aR 279), (aI 199), (aI 4), (aR 286), (aI 202), (aI 4), (aR 293)]
noncomputable def o182 : Obj := ⟨(.type "code"), none, .fields ⟨[(aS zS24 2688), (aS zS24 2689), (aS zS0 2690), (aI 133), (aI 0), (aI 0), (aI 0), (aI 0), (aR 180), (.bool false), (aI 276), (aR 181), .none, .none, .none, .none, (aI 2691), (aI 133), (aS zS0 2692)]⟩, ⟨[]⟩⟩
noncomputable def o183 : Obj := ⟨(.type "frame"), none, .plain, ⟨[some (aR 182), some (aR 3), some (aR 179), none, some (aS zS1 2580), none, some (aR 0)]⟩⟩
noncomputable def o184 : Obj := aT [.none]
noncomputable def o185 : Obj := aT []
noncomputable def o186 : Obj := aF []
noncomputable def o187 : Obj := aT [(aS zS14 2701), (aS (S [104,101,97,100,101,114,115]) 2702), (aS (S [107]) 2703), (aS (S [118]) 2704)]
noncomputable def o188 : Obj := aT []
noncomputable def o189 : Obj := aU zS43 zS126 (mt 0)
noncomputable def o190 : Obj := aC zS43 zS126 zS0 2698 2699 2700 2 0 135 185 2705 135 2706 true (aR 186) (aR 187) (aR 188) (aR 189)
noncomputable def o191 : Obj := aV zS43 zS126 (mt 0) (aR 184) .none (aS zS1 2580) (aR 190)
noncomputable def o192 : Obj := aT []
noncomputable def o193 : Obj := aF []
noncomputable def o194 : Obj := aT [(aS zS14 2711), (aS zS125 2712), (aS zS25 2713), (aS (S [114,101,103,101,120]) 2714)]
noncomputable def o195 : Obj := aT []
noncomputable def o196 : Obj := aU zS99 zS127 (mt 1)
noncomputable def o197 : Obj := aC zS99 zS127 zS0 2708 2709 2710 2 1 145 192 2715 145 2716 true (aR 193) (aR 194) (aR 195) (aR 196)
noncomputable def o198 : Obj := aV zS99 zS127 (mt 1) .none .none (aS zS1 2580) (aR 197)
noncomputable def o199 : Obj := aT []
noncomputable def o200 : Obj := aF []
noncomputable def o201 : Obj := aT [(aS zS14 2721)]
noncomputable def o202 : Obj := aT []
noncomputable def o203 : Obj := aU zS100 zS128 (mt 2)
noncomputable def o204 : Obj := aC zS100 zS128 zS0 2718 2719 2720 1 0 153 199 2722 153 2723 true (aR 200) (aR 201) (aR 202) (aR 203)
noncomputable def o205 : Obj := aV zS100 zS128 (mt 2) .none .none (aS zS1 2580) (aR 204)
noncomputable def o206 : Obj := aT []
noncomputable def o207 : Obj := aF []
noncomputable def o208 : Obj := aT [(aS zS14 2728), (aS zS25 2729), (aS (S [118,97,108]) 2730)]
noncomputable def o209 : Obj := aT []
noncomputable def o210 : Obj := aU zS101 zS129 (mt 3)
noncomputable def o211 : Obj := aC zS101 zS129 zS0 2725 2726 2727 3 0 156 206 2731 156 2732 true (aR 207) (aR 208) (aR 209) (aR 210)
noncomputable def o212 : Obj := aV zS101 zS129 (mt 3) .none .none (aS zS1 2580) (aR 211)
noncomputable def o213 : Obj := aT []
noncomputable def o214 : Obj := aF []
noncomputable def o215 : Obj := aU zS102 zS130 (mt 4)
noncomputable def o216 : Obj := aC zS102 zS130 zS0 2734 2735 2736 2 0 160 213 2737 160 2738 true (aR 214) .none .none (aR 215)
noncomputable def o217 : Obj := aV zS102 zS130 (mt 4) .none .none (aS zS1 2580) (aR 216)
noncomputable def o218 : Obj := aT []
noncomputable def o219 : Obj := aF []
noncomputable def o220 : Obj := aT [(aS zS14 2743), (aS zS25 2744)]
noncomputable def o221 : Obj := aT []
noncomputable def o222 : Obj := aU zS103 zS131 (mt 5)
noncomputable def o223 : Obj := aC zS103 zS131 zS0 2740 2741 2742 2 0 164 218 2745 164 2746 true (aR 219) (aR 220) (aR 221) (aR 222)
noncomputable def o224 : Obj := aV zS103 zS131 (mt 5) .none .none (aS zS1 2580) (aR 223)
noncomputable def o225 : Obj := aT []
noncomputable def o226 : Obj := aF []
noncomputable def o227 : Obj := aT [(aS zS14 2751), (aS zS25 2752)]
noncomputable def o228 : Obj := aT []
noncomputable def o229 : Obj := aU zS104 zS132 (mt 6)
noncomputable def o230 : Obj := aC zS104 zS132 zS0 2748 2749 2750 2 0 167 225 2753 167 2754 true (aR 226) (aR 227) (aR 228) (aR 229)
noncomputable def o231 : Obj := aV zS104 zS132 (mt 6) .none .none (aS zS1 2580) (aR 230)
noncomputable def o232 : Obj := aT []
noncomputable def o233 : Obj := aF []
noncomputable def o234 : Obj := aU zS105 zS133 (mt 7)
noncomputable def o235 : Obj := aC zS105 zS133 zS0 2756 2757 2758 2 0 170 232 2759 170 2760 true (aR 233) .none .none (aR 234)
noncomputable def o236 : Obj := aV zS105 zS133 (mt 7) .none .none (aS zS1 2580) (aR 235)
noncomputable def o237 : Obj := aT [.none]
noncomputable def o238 : Obj := aT []
noncomputable def o239 : Obj := aF []
noncomputable def o240 : Obj := aT [(aS zS14 2765), (aS zS25 2766), (aS (S [100,101,102,97,117,108,116]) 2767), (aS (S [107]) 2768), (aS (S [118]) 2769)]
noncomputable def o241 : Obj := aT []
noncomputable def o242 : Obj := aU zS106 zS134 (mt 8)
noncomputable def o243 : Obj := aC zS106 zS134 zS0 2762 2763 2764 3 0 174 238 2770 174 2771 true (aR 239) (aR 240) (aR 241) (aR 242)
noncomputable def o244 : Obj := aV zS106 zS134 (mt 8) (aR 237) .none (aS zS1 2580) (aR 243)
noncomputable def o245 : Obj := aT []
noncomputable def o246 : Obj := aF []
noncomputable def o247 : Obj := aU zS107 zS135 (mt 9)
noncomputable def o248 : Obj := aC zS107 zS135 zS0 2773 2774 2775 1 0 181 245 2776 181 2777 true (aR 246) .none .none (aR 247)
noncomputable def o249 : Obj := aV zS107 zS135 (mt 9) .none .none (aS zS1 2580) (aR 248)
noncomputable def o250 : Obj := aT []
noncomputable def o251 : Obj := aF []
noncomputable def o252 : Obj := aU zS108 zS136 (mt 10)
noncomputable def o253 : Obj := aC zS108 zS136 zS0 2779 2780 2781 1 0 184 250 2782 184 2783 true (aR 251) .none .none (aR 252)
noncomputable def o254 : Obj := aV zS108 zS136 (mt 10) .none .none (aS zS1 2580) (aR 253)
noncomputable def o255 : Obj := aT []
noncomputable def o256 : Obj := aF []
noncomputable def o257 : Obj := aT [(aS zS14 2788)]
noncomputable def o258 : Obj := aT []
noncomputable def o259 : Obj := aU zS109 zS137 (mt 11)
noncomputable def o260 : Obj := aC zS109 zS137 zS0 2785 2786 2787 1 0 187 255 2789 187 2790 true (aR 256) (aR 257) (aR 258) (aR 259)
noncomputable def o261 : Obj := aV zS109 zS137 (mt 11) .none .none (aS zS1 2580) (aR 260)
noncomputable def o262 : Obj := aT []
noncomputable def o263 : Obj := aF []
noncomputable def o264 : Obj := aT [(aS zS14 2795)]
noncomputable def o265 : Obj := aT []
noncomputable def o266 : Obj := aU zS44 zS138 (mt 12)
noncomputable def o267 : Obj := aC zS44 zS138 zS0 2792 2793 2794 1 0 190 262 2796 190 2797 true (aR 263) (aR 264) (aR 265) (aR 266)
noncomputable def o268 : Obj := aV zS44 zS138 (mt 12) .none .none (aS zS1 2580) (aR 267)
noncomputable def o269 : Obj := aT []
noncomputable def o270 : Obj := aF []
noncomputable def o271 : Obj := aU zS110 zS139 (mt 13)
noncomputable def o272 : Obj := aC zS110 zS139 zS0 2799 2800 2801 1 0 193 269 2802 193 2803 true (aR 270) .none .none (aR 271)
noncomputable def o273 : Obj := aV zS110 zS139 (mt 13) .none .none (aS zS1 2580) (aR 272)
noncomputable def o274 : Obj := aT []
noncomputable def o275 : Obj := aF []
noncomputable def o276 : Obj := aT [(aS zS14 2808)]
noncomputable def o277 : Obj := aT []
noncomputable def o278 : Obj := aU zS111 zS140 (mt 14)
noncomputable def o279 : Obj := aC zS111 zS140 zS0 2805 2806 2807 1 0 196 274 2809 196 2810 true (aR 275) (aR 276) (aR 277) (aR 278)
noncomputable def o280 : Obj := aV zS111 zS140 (mt 14) .none .none (aS zS1 2580) (aR 279)
noncomputable def o281 : Obj := aT []
noncomputable def o282 : Obj := aF []
noncomputable def o283 : Obj := aT [(aS zS14 2815), (aS zS25 2816), (aS zS125 2817)]
noncomputable def o284 : Obj := aT []
noncomputable def o285 : Obj := aU zS112 zS141 (mt 15)
noncomputable def o286 : Obj := aC zS112 zS141 zS0 2812 2813 2814 3 0 199 281 2818 199 2819 true (aR 282) (aR 283) (aR 284) (aR 285)
noncomputable def o287 : Obj := aV zS112 zS141 (mt 15) .none .none (aS zS1 2580) (aR 286)
noncomputable def o288 : Obj := aT []
noncomputable def o289 : Obj := aF []
noncomputable def o290 : Obj := aT [(aS zS14 2824), (aS (S [95,110,97,109,101]) 2825), (aS (S [95,118,97,108,117,101]) 2826), (aS (S [95,112,97,114,97,109,115]) 2827), (aS (S [112,97,114,116,115]) 2828), (aS (S [107]) 2829), (aS (S [118]) 2830)]
noncomputable def o291 : Obj := aT []
noncomputable def o292 : Obj := aU zS113 zS142 (mt 16)
noncomputable def o293 : Obj := ⟨(.type "code"), none, .fields ⟨[(aS zS113 2821), (aS zS142 2822), (aS zS0 2823), (aI 202), (aI 3), (aI 0), (aI 0), (aI 11), (aR 288), (.bool true), (aI 276), (aR 289), .none, (aR 290), (aR 291), (aR 292), (aI 2831), (aI 202), (aS zS0 2832)]⟩, ⟨[]⟩⟩
noncomputable def o294 : Obj := aV zS113 zS142 (mt 16) .none .none (aS zS1 2580) (aR 293)
noncomputable def o295 : Obj := aT [(aS (S [95,104,101,97,100,101,114,115]) 2834)]
noncomputable def o296 (P : Params) : Obj := aD [aE P zS115 2693 (aS zS1 2580), aE P zS116 2697 (.int 133 2696), aE P zS43 2707 (aR 191), aE P zS99 2717 (aR 198), aE P zS100 2724 (aR 205), aE P zS101 2733 (aR 212), aE P zS102 2739 (aR 217), aE P zS103 2747 (aR 224), aE P zS104 2755 (aR 231), aE P zS105 2761 (aR 236), aE P zS106 2772 (aR 244), aE P zS107 2778 (aR 249), aE P zS108 2784 (aR 254), aE P zS109 2791 (aR 261), aE P zS44 2798 (aR 268), aE P zS110 2804 (aR 273), aE P zS111 2811 (aR 280), aE P zS112 2820 (aR 287), aE P zS113 2833 (aR 294), aE P zS117 2835 (aR 295), aE P zS41 2837 (aR 298), aE P zS42 2839 (aR 299), aE P zS2 2840 .none] 4
noncomputable def o297 : Obj := ⟨(.type "type"), none, .cls { name := zS24, bases := [(.type "object")], mro := [(aR 297), (.type "object")], ns := 296, qualname := zS24, hasDict := true, slotNames := [], subclasses := [], abstract := false, collection := none, hasDel := false }, ⟨[none, none, some (aS zS24 2686), some (aS zS24 2694), some (.builtin "object.__new__"), some (.bool true)]⟩⟩
noncomputable def o298 : Obj := ⟨(.type "getset_descriptor"), none, .fields ⟨[(aS zS41 2836), (aR 297), (.builtin "function.__dict__"), (.builtin "function.__dict__#set")]⟩, ⟨[]⟩⟩
noncomputable def o299 : Obj := ⟨(.type "getset_descriptor"), none, .fields ⟨[(aS zS42 2838), (aR 297), (.builtin "ExceptionGroup.__weakref__"), .none]⟩, ⟨[]⟩⟩
noncomputable def o300 : Obj := ⟨(.type "super"), none, .fields ⟨[(aR 297), (aR 297), (aR 297)]⟩, ⟨[]⟩⟩
noncomputable def o301 : Obj := ⟨(.type "builtin_function_or_method"), none, .fields ⟨[(.builtin "object.__init_subclass__"), (aR 297)]⟩, ⟨[]⟩⟩
noncomputable def t_p71 (P : Params) : BT := (aN (o0 P) (aN (o1 P) (aN (o3_p71 P) (aN o7 (aN o15 (aN o31 (aN o63 (aN o127 (aL o255) .nil) (aL o191)) (aN o95 (aN o159 (aL o287) .nil) (aL o223))) (aN o47 (aN o79 (aN o143 (aL o271) .nil) (aL o207)) (aN o111 (aL o175) (aL o239)))) (aN o23 (aN o39 (aN o71 (aN o135 (aL o263) .nil) (aL o199)) (aN o103 (aN o167 (aL o295) .nil) (aL o231))) (aN o55 (aN o87 (aN o151 (aL o279) .nil) (aL o215)) (aN o119 (aL o183) (aL o247))))) (aN (o11 P) (aN o19 (aN o35 (aN o67 (aN (o131 P) (aL o259) .nil) (aL o195)) (aN o99 (aN o163 (aL o291) .nil) (aL o227))) (aN o51 (aN o83 (aN o147 (aL o275) .nil) (aL o211)) (aN o115 (aL (o179 P)) (aL o243)))) (aN o27 (aN o43 (aN o75 (aN o139 (aL o267) .nil) (aL o203)) (aN o107 (aN o171 (aL o299) .nil) (aL o235))) (aN o59 (aN o91 (aN o155 (aL o283) .nil) (aL o219)) (aN o123 (aL o187) (aL o251)))))) (aN o5 (aN o9 (aN o17 (aN o33 (aN o65 (aN o129 (aL o257) .nil) (aL o193)) (aN o97 (aN o161 (aL o289) .nil) (aL o225))) (aN (o49 P) (aN o81 (aN o145 (aL o273) .nil) (aL o209)) (aN o113 (aL o177) (aL o241)))) (aN o25 (aN o41 (aN (o73 P) (aN o137 (aL o265) .nil) (aL o201)) (aN o105 (aN o169 (aL o297) .nil) (aL o233))) (aN o57 (aN o89 (aN o153 (aL o281) .nil) (aL o217)) (aN o121 (aL o185) (aL o249))))) (aN (o13 P) (aN (o21 P) (aN o37 (aN o69 (aN o133 (aL o261) .nil) (aL o197)) (aN o101 (aN o165 (aL o293) .nil) (aL o229))) (aN o53 (aN o85 (aN o149 (aL o277) .nil) (aL o213)) (aN o117 (aL o181) (aL o245)))) (aN o29_p71 (aN o45 (aN o77 (aN o141 (aL o269) .nil) (aL o205)) (aN o109 (aN o173 (aL o301) .nil) (aL o237))) (aN o61 (aN o93 (aN o157 (aL o285) .nil) (aL o221)) (aN o125 (aL o189) (aL o253))))))) (aN (o2 P) (aN o4 (aN o8 (aN o16 (aN o32 (aN o64 (aN o128 (aL o256) .nil) (aL o192)) (aN o96 (aN o160 (aL o288) .nil) (aL o224))) (aN o48 (aN o80 (aN o144 (aL o272) .nil) (aL o208)) (aN o112 (aL o176) (aL o240)))) (aN o24 (aN (o40 P) (aN o72 (aN o136 (aL o264) .nil) (aL o200)) (aN o104 (aN o168 (aL (o296 P)) .nil) (aL o232))) (aN o56 (aN o88 (aN o152 (aL o280) .nil) (aL o216)) (aN o120 (aL o184) (aL o248))))) (aN o12 (aN (o20 P) (aN o36 (aN o68 (aN (o132 P) (aL o260) .nil) (aL o196)) (aN o100 (aN o164 (aL o292) .nil) (aL o228))) (aN o52 (aN o84 (aN o148 (aL o276) .nil) (aL o212)) (aN o116 (aL o180) (aL o244)))) (aN o28 (aN o44 (aN o76 (aN o140 (aL o268) .nil) (aL o204)) (aN o108 (aN o172 (aL o300) .nil) (aL o236))) (aN o60 (aN o92 (aN o156 (aL o284) .nil) (aL o220)) (aN o124 (aL o188) (aL o252)))))) (aN o6 (aN o10 (aN o18 (aN o34 (aN o66 (aN (o130 P) (aL o258) .nil) (aL o194)) (aN o98 (aN o162 (aL o290) .nil) (aL o226))) (aN o50 (aN o82 (aN o146 (aL o274) .nil) (aL o210)) (aN o114 (aL o178) (aL o242)))) (aN o26 (aN o42 (aN o74 (aN o138 (aL o266) .nil) (aL o202)) (aN o106 (aN o170 (aL o298) .nil) (aL o234))) (aN (o58 P) (aN o90 (aN o154 (aL o282) .nil) (aL o218)) (aN o122 (aL o186) (aL o250))))) (aN o14 (aN o22 (aN o38 (aN o70 (aN o134 (aL o262) .nil) (aL o198)) (aN o102 (aN o166 (aL o294) .nil) (aL o230))) (aN o54 (aN o86 (aN o150 (aL o278) .nil) (aL o214)) (aN o118 (aL o182) (aL o246)))) (aN o30 (aN o46 (aN o78 (aN o142 (aL o270) .nil) (aL o206)) (aN o110 (aL o174) (aL o238))) (aN o62 (aN o94 (aN o158 (aL o286) .nil) (aL o222)) (aN o126 (aL o190) (aL o254))))))))
noncomputable def o3_p86 (P : Params) : Obj := aD [aE P zS9 165 (aS zS8 2843), eD0 P, eD1 P, eD2 P, eD3 P, eD4 P, eD5 P, eD6 P, eD7 P, eD8 P, eD9 P, eD10 P, eD11 P, eD12 P, eD13 P, eD14 P, eD15 P, eD16 P, eD17 P, eD18 P, eD19 P, eD20 P, eD21 P, eD22 P, eD23 P, eD24 P, eD25 P, eD26 P, eD27 P, eD28 P, eD29 P, eD30 P, eD31 P, eD32 P, eD33 P, eD34 P, eD35 P, eD36 P, eD37 P, eD38 P, eD39 P, eD40 P, eD41 P, eD42 P, eD43 P, eD44 P, eD45 P, eD46 P, eD47 P, eD48 P, eD49 P, eD50 P, eD51 P, eD52 P, eD53 P, eD54 P, eD55 P, eD56 P, eD57 P, eD58 P, eD59 P, eD60 P, eD61 P, eD62 P, eD63 P, eD64 P, eD65 P, eD66 P, eD68 P, aE P zS20 2565 (aR 139), aE P zS21 2572 (aR 146), aE P zS22 2579 (aR 153), aE P zS122 2615 (aR 158), aE P zS123 2641 (aR 163), aE P zS124 2675 (aR 168), aE P zS23 2685 (aR 176), aE P zS24 2842 (aR 297), aE P zS27 2858 (aR 308), aE P zS28 2867 (aR 315), aE P zS29 2877 (aR 322), aE P zS30 2886 (aR 329), aE P zS31 2899 (aR 336), aE P zS32 2908 (aR 343), aE P zS33 2914 (aR 348), aE P zS34 2920 (aR 353), aE P zS35 2933 (aR 360), aE P zS36 2939 (aR 365), aE P zS37 2945 (aR 370), aE P zS38 2951 (aR 375), aE P zS39 2957 (aR 380), aE P zS40 2963 (aR 385)] 91
noncomputable def o29_p86 : Obj := aF [(aI 2), (aI 0), (aR 37), (aI 6), (aI 0), (aR 46), (aI 12), (aI 0), (aR 55), (aI 32), (aI 0), (aR 64), (aI 54), (aI 0), (aR 82), (aI 57), (aI 0), (aR 128), (aI 114), (aI 0), (aR 138), (aI 116), (aI 0), (aR 145), (aI 118), (aI 0), (aR 152), (aI 124), (aI 0), (aR 175), (aI 133), (aI 0), (aR 182), (aI 216), (aI 0), (aR 307), (aI 229), (aI 0), (aR 314), (aI 235), (aI 0), (aR 321), (aI 248), (aI 0), (aR 328), (aI 254), (aI 0), (aR 335), (aI 275), (aI 0), (aR 342), (aI 282), (aI 0), (aR 347), (aI 285), (aI 0), (aR 352), (aI 304), (aI 0), (aR 359), (aI 315), (aI 0), (aR 364), (aI 325), (aI 0), (aR 369), (aI 333), (aI 0), (aR 374), (aI 340), (aI 0), (aR 379), (aI 357), (aI 0), (aR 384)]
noncomputable def o302 : Obj := aT []
noncomputable def o303 : Obj := aF []
noncomputable def o304 : Obj := aT [(aS (S [120]) 2848), (aS (S [115,112,101,108,108,105,110,103,115]) 2849), (aS (S [109,97,114,107]) 2850), (aS (S [108,101,102,116]) 2851), (aS (S [114,105,103,104,116]) 2852), (aS (S [117,110,115,101,101,110]) 2853), (aS (S [119,114,105,116,116,101,110]) 2854), (aS (S [119,97,121,115]) 2855)]
noncomputable def o305 : Obj := aT []
noncomputable def o306 : Obj := aU zS27 zS27 (st 72)
noncomputable def o307 : Obj := aC zS27 zS27 zS0 2845 2846 2847 1 0 216 302 2856 216 2857 true (aR 303) (aR 304) (aR 305) (aR 306)
noncomputable def o308 : Obj := aV zS27 zS27 (st 72) .none .none (aS zS8 2843) (aR 307)
noncomputable def o309 : Obj := aT []
noncomputable def o310 : Obj := aF []
noncomputable def o311 : Obj := aT [(aS (S [116,101,120,116]) 2862), (aS (S [111,117,116]) 2863), (aS (S [115,105,103,110]) 2864)]
noncomputable def o312 : Obj := aT []
noncomputable def o313 : Obj := aU zS28 zS28 (st 73)
noncomputable def o314 : Obj := aC zS28 zS28 zS0 2859 2860 2861 1 0 229 309 2865 229 2866 true (aR 310) (aR 311) (aR 312) (aR 313)
noncomputable def o315 : Obj := aV zS28 zS28 (st 73) .none .none (aS zS8 2843) (aR 314)
noncomputable def o316 : Obj := aT []
noncomputable def o317 : Obj := aF []
noncomputable def o318 : Obj := aT [(aS (S [116,101,120,116]) 2871), (aS zS143 2872), (aS (S [112,108,97,99,101]) 2873), (aS (S [115,105,122,101]) 2874)]
noncomputable def o319 : Obj := aT []
noncomputable def o320 : Obj := aU zS29 zS29 (st 74)
noncomputable def o321 : Obj := aC zS29 zS29 zS0 2868 2869 2870 1 0 235 316 2875 235 2876 true (aR 317) (aR 318) (aR 319) (aR 320)
noncomputable def o322 : Obj := aV zS29 zS29 (st 74) .none .none (aS zS8 2843) (aR 321)
noncomputable def o323 : Obj := aT []
noncomputable def o324 : Obj := aF []
noncomputable def o325 : Obj := aT [(aS zS143 2881), (aS (S [114,111,119]) 2882), (aS (S [112,105,101,99,101]) 2883)]
noncomputable def o326 : Obj := aT []
noncomputable def o327 : Obj := aU zS30 zS30 (st 75)
noncomputable def o328 : Obj := aC zS30 zS30 zS0 2878 2879 2880 1 0 248 323 2884 248 2885 true (aR 324) (aR 325) (aR 326) (aR 327)
noncomputable def o329 : Obj := aV zS30 zS30 (st 75) .none .none (aS zS8 2843) (aR 328)
noncomputable def o330 : Obj := aT []
noncomputable def o331 : Obj := aF []
noncomputable def o332 : Obj := aT [(aS zS143 2890), (aS (S [114,111,119]) 2891), (aS (S [115,121,109,98,111,108,115]) 2892), (aS (S [112,105,101,99,101]) 2893), (aS (S [115,116,101,112,115]) 2894), (aS (S [114,101,97,100]) 2895), (aS (S [115,121,109,98,111,108]) 2896)]
noncomputable def o333 : Obj := aT []
noncomputable def o334 : Obj := aU zS31 zS31 (st 76)
noncomputable def o335 : Obj := aC zS31 zS31 zS0 2887 2888 2889 2 0 254 330 2897 254 2898 true (aR 331) (aR 332) (aR 333) (aR 334)
noncomputable def o336 : Obj := aV zS31 zS31 (st 76) .none .none (aS zS8 2843) (aR 335)
noncomputable def o337 : Obj := aT []
noncomputable def o338 : Obj := aF []
noncomputable def o339 : Obj := aT [(aS (S [97,98,111,118,101]) 2903), (aS (S [107]) 2904), (aS (S [99,104,97,105,110]) 2905)]
noncomputable def o340 : Obj := aT []
noncomputable def o341 : Obj := aU zS32 zS32 (st 77)
noncomputable def o342 : Obj := aC zS32 zS32 zS0 2900 2901 2902 2 0 275 337 2906 275 2907 true (aR 338) (aR 339) (aR 340) (aR 341)
noncomputable def o343 : Obj := aV zS32 zS32 (st 77) .none .none (aS zS8 2843) (aR 342)
noncomputable def o344 : Obj := aT []
noncomputable def o345 : Obj := aF []
noncomputable def o346 : Obj := aU zS33 zS33 (st 78)
noncomputable def o347 : Obj := aC zS33 zS33 zS0 2909 2910 2911 2 0 282 344 2912 282 2913 true (aR 345) .none .none (aR 346)
noncomputable def o348 : Obj := aV zS33 zS33 (st 78) .none .none (aS zS8 2843) (aR 347)
noncomputable def o349 : Obj := aT []
noncomputable def o350 : Obj := aF []
noncomputable def o351 : Obj := aU zS34 zS34 (st 79)
noncomputable def o352 : Obj := aC zS34 zS34 zS0 2915 2916 2917 2 0 285 349 2918 285 2919 true (aR 350) .none .none (aR 351)
noncomputable def o353 : Obj := aV zS34 zS34 (st 79) .none .none (aS zS8 2843) (aR 352)
noncomputable def o354 : Obj := aT []
noncomputable def o355 : Obj := aF []
noncomputable def o356 : Obj := aT [(aS (S [119,97,121,115]) 2924), (aS (S [98,101,103,105,110]) 2925), (aS (S [119,105,116,104,111,117,116]) 2926), (aS (S [103,111,116]) 2927), (aS (S [107]) 2928), (aS (S [97]) 2929), (aS (S [98]) 2930)]
noncomputable def o357 : Obj := aT []
noncomputable def o358 : Obj := aU zS35 zS35 (st 80)
noncomputable def o359 : Obj := aC zS35 zS35 zS0 2921 2922 2923 3 0 304 354 2931 304 2932 true (aR 355) (aR 356) (aR 357) (aR 358)
noncomputable def o360 : Obj := aV zS35 zS35 (st 80) .none .none (aS zS8 2843) (aR 359)
noncomputable def o361 : Obj := aT []
noncomputable def o362 : Obj := aF []
noncomputable def o363 : Obj := aU zS36 zS36 (st 81)
noncomputable def o364 : Obj := aC zS36 zS36 zS0 2934 2935 2936 3 0 315 361 2937 315 2938 true (aR 362) .none .none (aR 363)
noncomputable def o365 : Obj := aV zS36 zS36 (st 81) .none .none (aS zS8 2843) (aR 364)
noncomputable def o366 : Obj := aT []
noncomputable def o367 : Obj := aF []
noncomputable def o368 : Obj := aU zS37 zS37 (st 82)
noncomputable def o369 : Obj := aC zS37 zS37 zS0 2940 2941 2942 3 0 325 366 2943 325 2944 true (aR 367) .none .none (aR 368)
noncomputable def o370 : Obj := aV zS37 zS37 (st 82) .none .none (aS zS8 2843) (aR 369)
noncomputable def o371 : Obj := aT []
noncomputable def o372 : Obj := aF []
noncomputable def o373 : Obj := aU zS38 zS38 (st 83)
noncomputable def o374 : Obj := aC zS38 zS38 zS0 2946 2947 2948 1 0 333 371 2949 333 2950 true (aR 372) .none .none (aR 373)
noncomputable def o375 : Obj := aV zS38 zS38 (st 83) .none .none (aS zS8 2843) (aR 374)
noncomputable def o376 : Obj := aT []
noncomputable def o377 : Obj := aF []
noncomputable def o378 : Obj := aU zS39 zS39 (st 84)
noncomputable def o379 : Obj := aC zS39 zS39 zS0 2952 2953 2954 2 0 340 376 2955 340 2956 true (aR 377) .none .none (aR 378)
noncomputable def o380 : Obj := aV zS39 zS39 (st 84) .none .none (aS zS8 2843) (aR 379)
noncomputable def o381 : Obj := aT []
noncomputable def o382 : Obj := aF []
noncomputable def o383 : Obj := aU zS40 zS40 (st 85)
noncomputable def o384 : Obj := aC zS40 zS40 zS0 2958 2959 2960 1 0 357 381 2961 357 2962 true (aR 382) .none .none (aR 383)
noncomputable def o385 : Obj := aV zS40 zS40 (st 85) .none .none (aS zS8 2843) (aR 384)
noncomputable def t_p86 (P : Params) : BT := (aN (o0 P) (aN (o1 P) (aN (o3_p86 P) (aN o7 (aN o15 (aN o31 (aN o63 (aN o127 (aL o255) (aL o383)) (aN o191 (aL o319) .nil)) (aN o95 (aN o159 (aL o287) .nil) (aN o223 (aL o351) .nil))) (aN o47 (aN o79 (aN o143 (aL o271) .nil) (aN o207 (aL o335) .nil)) (aN o111 (aN o175 (aL o303) .nil) (aN o239 (aL o367) .nil)))) (aN o23 (aN o39 (aN o71 (aN o135 (aL o263) .nil) (aN o199 (aL o327) .nil)) (aN o103 (aN o167 (aL o295) .nil) (aN o231 (aL o359) .nil))) (aN o55 (aN o87 (aN o151 (aL o279) .nil) (aN o215 (aL o343) .nil)) (aN o119 (aN o183 (aL o311) .nil) (aN o247 (aL o375) .nil))))) (aN (o11 P) (aN o19 (aN o35 (aN o67 (aN (o131 P) (aL o259) .nil) (aN o195 (aL o323) .nil)) (aN o99 (aN o163 (aL o291) .nil) (aN o227 (aL o355) .nil))) (aN o51 (aN o83 (aN o147 (aL o275) .nil) (aN o211 (aL o339) .nil)) (aN o115 (aN (o179 P) (aL o307) .nil) (aN o243 (aL o371) .nil)))) (aN o27 (aN o43 (aN o75 (aN o139 (aL o267) .nil) (aN o203 (aL o331) .nil)) (aN o107 (aN o171 (aL o299) .nil) (aN o235 (aL o363) .nil))) (aN o59 (aN o91 (aN o155 (aL o283) .nil) (aN o219 (aL o347) .nil)) (aN o123 (aN o187 (aL o315) .nil) (aN o251 (aL o379) .nil)))))) (aN o5 (aN o9 (aN o17 (aN o33 (aN o65 (aN o129 (aL o257) (aL o385)) (aN o193 (aL o321) .nil)) (aN o97 (aN o161 (aL o289) .nil) (aN o225 (aL o353) .nil))) (aN (o49 P) (aN o81 (aN o145 (aL o273) .nil) (aN o209 (aL o337) .nil)) (aN o113 (aN o177 (aL o305) .nil) (aN o241 (aL o369) .nil)))) (aN o25 (aN o41 (aN (o73 P) (aN o137 (aL o265) .nil) (aN o201 (aL o329) .nil)) (aN o105 (aN o169 (aL o297) .nil) (aN o233 (aL o361) .nil))) (aN o57 (aN o89 (aN o153 (aL o281) .nil) (aN o217 (aL o345) .nil)) (aN o121 (aN o185 (aL o313) .nil) (aN o249 (aL o377) .nil))))) (aN (o13 P) (aN (o21 P) (aN o37 (aN o69 (aN o133 (aL o261) .nil) (aN o197 (aL o325) .nil)) (aN o101 (aN o165 (aL o293) .nil) (aN o229 (aL o357) .nil))) (aN o53 (aN o85 (aN o149 (aL o277) .nil) (aN o213 (aL o341) .nil)) (aN o117 (aN o181 (aL o309) .nil) (aN o245 (aL o373) .nil)))) (aN o29_p86 (aN o45 (aN o77 (aN o141 (aL o269) .nil) (aN o205 (aL o333) .nil)) (aN o109 (aN o173 (aL o301) .nil) (aN o237 (aL o365) .nil))) (aN o61 (aN o93 (aN o157 (aL o285) .nil) (aN o221 (aL o349) .nil)) (aN o125 (aN o189 (aL o317) .nil) (aN o253 (aL o381) .nil))))))) (aN (o2 P) (aN o4 (aN o8 (aN o16 (aN o32 (aN o64 (aN o128 (aL o256) (aL o384)) (aN o192 (aL o320) .nil)) (aN o96 (aN o160 (aL o288) .nil) (aN o224 (aL o352) .nil))) (aN o48 (aN o80 (aN o144 (aL o272) .nil) (aN o208 (aL o336) .nil)) (aN o112 (aN o176 (aL o304) .nil) (aN o240 (aL o368) .nil)))) (aN o24 (aN (o40 P) (aN o72 (aN o136 (aL o264) .nil) (aN o200 (aL o328) .nil)) (aN o104 (aN o168 (aL (o296 P)) .nil) (aN o232 (aL o360) .nil))) (aN o56 (aN o88 (aN o152 (aL o280) .nil) (aN o216 (aL o344) .nil)) (aN o120 (aN o184 (aL o312) .nil) (aN o248 (aL o376) .nil))))) (aN o12 (aN (o20 P) (aN o36 (aN o68 (aN (o132 P) (aL o260) .nil) (aN o196 (aL o324) .nil)) (aN o100 (aN o164 (aL o292) .nil) (aN o228 (aL o356) .nil))) (aN o52 (aN o84 (aN o148 (aL o276) .nil) (aN o212 (aL o340) .nil)) (aN o116 (aN o180 (aL o308) .nil) (aN o244 (aL o372) .nil)))) (aN o28 (aN o44 (aN o76 (aN o140 (aL o268) .nil) (aN o204 (aL o332) .nil)) (aN o108 (aN o172 (aL o300) .nil) (aN o236 (aL o364) .nil))) (aN o60 (aN o92 (aN o156 (aL o284) .nil) (aN o220 (aL o348) .nil)) (aN o124 (aN o188 (aL o316) .nil) (aN o252 (aL o380) .nil)))))) (aN o6 (aN o10 (aN o18 (aN o34 (aN o66 (aN (o130 P) (aL o258) .nil) (aN o194 (aL o322) .nil)) (aN o98 (aN o162 (aL o290) .nil) (aN o226 (aL o354) .nil))) (aN o50 (aN o82 (aN o146 (aL o274) .nil) (aN o210 (aL o338) .nil)) (aN o114 (aN o178 (aL o306) .nil) (aN o242 (aL o370) .nil)))) (aN o26 (aN o42 (aN o74 (aN o138 (aL o266) .nil) (aN o202 (aL o330) .nil)) (aN o106 (aN o170 (aL o298) .nil) (aN o234 (aL o362) .nil))) (aN (o58 P) (aN o90 (aN o154 (aL o282) .nil) (aN o218 (aL o346) .nil)) (aN o122 (aN o186 (aL o314) .nil) (aN o250 (aL o378) .nil))))) (aN o14 (aN o22 (aN o38 (aN o70 (aN o134 (aL o262) .nil) (aN o198 (aL o326) .nil)) (aN o102 (aN o166 (aL o294) .nil) (aN o230 (aL o358) .nil))) (aN o54 (aN o86 (aN o150 (aL o278) .nil) (aN o214 (aL o342) .nil)) (aN o118 (aN o182 (aL o310) .nil) (aN o246 (aL o374) .nil)))) (aN o30 (aN o46 (aN o78 (aN o142 (aL o270) .nil) (aN o206 (aL o334) .nil)) (aN o110 (aN o174 (aL o302) .nil) (aN o238 (aL o366) .nil))) (aN o62 (aN o94 (aN o158 (aL o286) .nil) (aN o222 (aL o350) .nil)) (aN o126 (aN o190 (aL o318) .nil) (aN o254 (aL o382) .nil))))))))
noncomputable def o11_e (P : Params) : Obj := aD [aE P zS9 247 (aS zS3 246), aE P zS2 248 .none, aE P zS10 250 (aS (S []) 249), aE P zS11 251 (aR 14), aE P zS12 252 (aR 26), aE P zS119 253 (.builtin "_sre.compile"), aE P (S [116,101,109,112,108,97,116,101]) 254 (.builtin "_sre.template"), aE P zS144 255 (.builtin "_sre.getcodesize"), aE P zS145 256 (.builtin "_sre.ascii_iscased"), aE P zS146 257 (.builtin "_sre.unicode_iscased"), aE P zS147 258 (.builtin "_sre.ascii_tolower"), aE P zS148 259 (.builtin "_sre.unicode_tolower"), aE P (S [77,65,71,73,67]) 261 (.int 20230612 260), aE P (S [67,79,68,69,83,73,90,69]) 263 (.int 4 262), eD69 P, eD70 P, aE P zS120 269 (aS zS149 268)] 17
noncomputable def t_e (P : Params) : BT := (aN (o0 P) (aN (o1 P) (aN (o3 P) (aN o7 (aL o15) (aL o23)) (aN (o11_e P) (aL o19) (aL o27))) (aN o5 (aN o9 (aL o17) (aL o25)) (aN (o13 P) (aL (o21 P)) .nil))) (aN (o2 P) (aN o4 (aN o8 (aL o16) (aL o24)) (aN o12 (aL (o20 P)) .nil)) (aN o6 (aN o10 (aL o18) (aL o26)) (aN o14 (aL o22) .nil))))
noncomputable def env0 : Env := { scope := pr.main.scope, locals := mainNs, globals := mainNs, cells := [], code := .ref 30, frame := some 31 }
noncomputable def cE : Code := .body body env0
noncomputable def ann : Option Value := some (.ref 6)
noncomputable def z0 : Pos := ⟨0, 0, 0, 0⟩
noncomputable def B0 : List Frame := [topFrame z0]
noncomputable def d0 : Drawn := ⟨0, 0, 0, 0⟩
noncomputable abbrev mkS (T : BT) (n k : Nat) (os : OsState) : SharedT := ⟨T, n, {}, ⟨[]⟩, d0, k, os⟩
noncomputable def Go {α : Type} (w : World) (os : OsState) (n : Nat) (m : Sem α) (T : BT) (z k : Nat) (p : Pos) (a : α) (T' : BT) (z' k' : Nat) (p' : Pos) : Prop :=
 ∀ (K : α → Sem Fin) (H : Value → Sem Fin) (gd : Bool → Bool) (lv : List Value → List Value) (N : Nat),
  segRunT treeTable pr w 28 ann 1 (N + n) (mkS T z k os) ⟨m.wrap K H gd lv, cE, p, B0⟩ = segRunT treeTable pr w 28 ann 1 N (mkS T' z' k' os) ⟨K a, cE, p', B0⟩
section
variable {α β : Type} {w : World} {os : OsState} {T T₁ T₂ : BT} {z k z₁ k₁ z₂ k₂ n n₁ : Nat} {p p₁ p₂ : Pos}
theorem Go.pure (a : α) : Go w os 0 (Pure.pure a) T z k p a T z k p := fun _ _ _ _ _ => rfl
theorem Go.bind {m : Sem α} {f : α → Sem β} {a : α} {b : β} (h : Go w os n m T z k p a T₁ z₁ k₁ p₁) (h' : Go w os n₁ (f a) T₁ z₁ k₁ p₁ b T₂ z₂ k₂ p₂) :
  Go w os (n₁ + n) (m >>= f) T z k p b T₂ z₂ k₂ p₂ := fun K H gd lv N => by
 rw [Sem.bind_eq_wrap', Sem.wrap_wrap, ← Nat.add_assoc]
 exact (h _ _ _ _ _).trans (h' K H _ _ N)
theorem Go.keep {m : Sem α} {a : α} (vs : List Value) (h : Go w os n m T z k p a T₁ z₁ k₁ p₁) : Go w os n (m.keep vs) T z k p a T₁ z₁ k₁ p₁ := fun K H gd lv N => by
 rw [Sem.keep_eq_wrap, Sem.wrap_wrap]
 exact h _ _ _ _ _
theorem Go.holding {m : Sem α} {a : α} (vs : List Value) (h : Go w os n m T z k p a T₁ z₁ k₁ p₁) : Go w os n (PySem.holding vs m) T z k p a T₁ z₁ k₁ p₁ := by
 unfold PySem.holding
 split
 ·exact h
 ·exact h.keep _
theorem Go.onRaise {m : Sem α} {a : α} (k' : Value → Sem Unit) (h : Go w os n m T z k p a T₁ z₁ k₁ p₁) : Go w os n (m.onRaise k') T z k p a T₁ z₁ k₁ p₁ := fun K H gd lv N => by
 rw [Sem.onRaise_eq_wrap, Sem.wrap_wrap]
 exact h _ _ _ _ _
theorem Go.cast {m : Sem α} {a a' : α} {n' : Nat} (h : Go w os n m T z k p a T₁ z₁ k₁ p₁) (hn : n = n') (ha : a = a') (hT : T₁ = T₂) (hz : z₁ = z₂) (hk : k₁ = k₂) : Go w os n' m T z k p a' T₂ z₂ k₂ p₁ := by
 subst hn ha hT hz hk; exact h
theorem Go.rule (t : String) : Go w os 1 (PySem.rule t) T z k p () T z k p := fun _ _ _ _ _ => rfl
theorem Go.at (p₁ : Pos) : Go w os 1 (standAt p₁) T z k p () T z k p₁ := fun _ _ _ _ _ => rfl
theorem Go.fresh : Go w os 1 PySem.fresh T z k p k T z (k + 1) p := fun _ _ _ _ _ => rfl
theorem seg_step {N : Nat} {S S' : SharedT} {t t' : Thread} (he : endAt 1 t = none) (hk : stepOk 28 ann t = true) (hs : stepT (denote treeTable) pr w S t = some (S', t')) :
  segRunT treeTable pr w 28 ann 1 (N + 1) S t = segRunT treeTable pr w 28 ann 1 N S' t' := by
 conv => lhs; unfold segRunT
 rw [he]
 dsimp only
 rw [hk]
 dsimp only
 rw [hs]
theorem Go.load {a : Addr} {part : Option Value} {o : Obj} (ha : Nat.blt a z = true) (ho : T.get a = some o) (hl : alive o = some o) : Go w os 1 (loadPart a part) T z k p o T z k p := fun K H gd lv N =>
 seg_step rfl rfl (by
  show stepT _ _ _ _ ⟨.load a part fun x => K x, cE, p, B0⟩ = _
  simp only [stepT, ha, ho, hl])
theorem Go.update {a : Addr} {part : Option Value} {f : Obj → Obj} {o : Obj} (ha : Nat.blt a z = true) (ho : T.get a = some o) (hl : alive o = some o) (hb : Nat.ble 28 a = true) : Go w os 1 (updatePart a part f) T z k p () (T.set a f) z k p := fun K H gd lv N =>
 seg_step rfl (by
   show (true && (Nat.ble 28 a || a == mainNs || a == cStatics || ann == some (.ref a))) = true
   rw [hb]; rfl) (by
  show stepT _ _ _ _ ⟨.update a part f fun x => K x, cE, p, B0⟩ = _
  simp only [stepT, ha, ho, hl])
theorem Go.alloc {o : Obj} (h : ((T.ins z o).get z).isSome = true) : Go w os 1 (PySem.alloc o) T z k p z (T.ins z o) (z + 1) k p := fun K H gd lv N =>
 seg_step rfl rfl (by
  show stepT _ _ _ _ ⟨.alloc o fun x => K x, cE, p, B0⟩ = _
  simp only [stepT, h])
end
noncomputable def HashP (w : World) : Prop := ∀ (os : OsState) (T : BT) (z k : Nat) (p : Pos) (i : Int) (t : Nat) (K : Int → Sem Fin) (H : Value → Sem Fin) (gd : Bool → Bool) (lv : List Value → List Value) (N : Nat),
 segRunT treeTable pr w 28 ann 1 (N + 5) (mkS T z k os) ⟨(pyHash (.int i t)).wrap K H gd lv, cE, p, B0⟩ = segRunT treeTable pr w 28 ann 1 N (mkS T z (k + 1) os) ⟨(pyHashByItsType.reduced (rawHash i)).wrap K H gd lv, cE, p, B0⟩
theorem hash0 (w : World) : HashP w := byRow2 "special-get-raises" (P := HashP)
 (fun w os T z k p i t K H gd lv N => by rw [PySem.W.Fast.te10110043849684766642, PySem.W.Fast.te14364793385576792824]; kernel_rfl)
 (fun w os T z k p i t K H gd lv N => by rw [PySem.W.Fast.te10110043849684766642, PySem.W.Fast.te14364793385576792824]; kernel_rfl) w
section
variable {w : World} {os : OsState} {T : BT} {z k n : Nat} {p dp : Pos}
theorem rawHash_small {i : Int} (h0 : 0 ≤ i) (h1 : i < 2 ^ 60) : rawHash i = i := by
 have e : (i.natAbs : Int) % ((2 ^ 61 - 1 : Nat) : Int) = i := by lia
 unfold rawHash
 rw [e]
 have : ¬ i < 0 := by lia
 dsimp only
 rw [if_neg this]
 have h3 : (i == -1) = false := by simp; lia
 rw [h3]; rfl
theorem Go.hash {i : Int} {t : Nat} (h0 : 0 ≤ i) (h1 : i < 2 ^ 60) : Go w os 5 (pyHash (.int i t)) T z k p i T z (k + 1) p := fun K H gd lv N => by
 have h := hash0 w os T z k p i t K H gd lv N
 rw [rawHash_small h0 h1] at h
 rw [h]
 have e : pyHashByItsType.reduced i = Pure.pure i := by
  unfold pyHashByItsType.reduced
  have h2 : (decide (-(2 ^ 63 : Int) ≤ i) && decide (i < 2 ^ 63)) = true := by simp; lia
  rw [if_pos h2]
  have h3 : (i == -1) = false := by simp; lia
  rw [h3]; rfl
 rw [e]; rfl
theorem places_none {es : Array DictEntry} {h : Int} (hn : ∀ x ∈ es, x.hash ≠ h) : placesWithHash es.size (fun i => es[i]?.map (·.hash)) h = [] := by
 unfold placesWithHash
 rw [List.filter_eq_nil_iff]
 intro i hi
 rw [List.mem_range] at hi
 simp only [Array.getElem?_eq_getElem hi, Option.map_some, beq_iff_eq, Option.some.injEq]
 exact hn _ (Array.getElem_mem hi)
theorem Go.entries {a : Addr} {l : List DictEntry} {m : Nat} {part : Option Value} (ha : Nat.blt a z = true) (ho : T.get a = some (dictO l m)) : Go w os 1 (dictEntries a part) T z k p (Array.mk l) T z k p := by
 unfold dictEntries
 exact Go.bind (n := 1) (n₁ := 0) (Go.load (o := dictO l m) ha ho rfl) (Go.pure _)
theorem Go.epoch {a : Addr} {l : List DictEntry} {m : Nat} {part : Option Value} (ha : Nat.blt a z = true) (ho : T.get a = some (dictO l m)) : Go w os 1 (dictEpoch a part) T z k p m T z k p := by
 unfold dictEpoch
 exact Go.bind (n := 1) (n₁ := 0) (Go.load (o := dictO l m) ha ho rfl) (Go.pure _)
theorem Go.find {a : Addr} {l : List DictEntry} {m : Nat} {i h : Int} {t : Nat} (ha : Nat.blt a z = true) (ho : T.get a = some (dictO l m)) (hn : ∀ x ∈ l, x.hash ≠ h) :
  Go w os 1 (dictFind a (.int i t) h) T z k p none T z k p := by
 unfold dictFind
 refine Go.holding _ (Go.bind (n := 1) (n₁ := 0) (Go.entries ha ho) ?_)
 ·have e : placesWithHash (Array.mk l).size (fun i => (Array.mk l)[i]?.map (·.hash)) h = [] := places_none (fun x hx => hn x (by simpa using hx))
  show Go w os 0 (if ((Value.int i t) :: List.filterMap _ (placesWithHash (Array.mk l).size _ h)).all carriedByValue = true then dictWalkPlain a (.int i t) h ⟨l⟩ (placesWithHash _ _ h) else _) _ _ _ _ _ _ _ _ _
  rw [e]
  exact Go.pure _
theorem set_set (f g : Obj → Obj) : ∀ (T : BT) (a : Nat), (T.set a f).set a g = T.set a (fun o => g (f o))
 | .nil, _ => rfl
 | .node v l r, a => by
  rw [BT.set_node, BT.set_node]
  by_cases h : a = 0
  ·simp [h, BT.set_node]
  ·by_cases q : a % 2 = 1
   ·simp [h, q, BT.set_node, set_set f g l]
   ·simp [h, q, BT.set_node, set_set f g r]
theorem set_congr {f g : Obj → Obj} : ∀ {T : BT} {a : Nat} {o : Obj}, T.get a = some o → f o = g o → T.set a f = T.set a g
 | .nil, _, _, h, _ => by simp [BT.get] at h
 | .node v l r, a, o, h, e => by
  rw [BT.get_node] at h
  rw [BT.set_node, BT.set_node]
  by_cases h0 : a = 0
  ·rw [if_pos h0] at h ⊢; rw [if_pos h0]; cases h; rw [e]
  ·rw [if_neg h0] at h ⊢; rw [if_neg h0]
   by_cases q : a % 2 = 1
   ·rw [if_pos q] at h ⊢; rw [if_pos q]; rw [set_congr h e]
   ·rw [if_neg q] at h ⊢; rw [if_neg q]; rw [set_congr h e]
noncomputable def put (T : BT) (a : Nat) (l : List DictEntry) (m : Nat) : BT := T.set a fun _ => dictO l m
theorem put_get {a : Nat} {o : Obj} {l : List DictEntry} {m : Nat} (h : T.get a = some o) : (put T a l m).get a = some (dictO l m) := by
 unfold put; rw [BT.get_set, if_pos rfl, h]; rfl
theorem put_ne {a b : Nat} {l : List DictEntry} {m : Nat} (h : b ≠ a) : (put T a l m).get b = T.get b := by
 unfold put; rw [BT.get_set, if_neg h]
theorem put_keys {a : Nat} {o : Obj} {l : List DictEntry} {m : Nat} (x : DictEntry) (h : T.get a = some o) : (put T a l m).set a (Obj.mapDictKeys (·.push x)) = put T a (l ++ [x]) (m + 1) := by
 unfold put; rw [set_set]
 refine set_congr h ?_
 show (⟨.type "dict", none, .dict ((Array.mk l).push x) (m + 1), #[]⟩ : Obj) = dictO (l ++ [x]) (m + 1)
 unfold dictO
 rw [show (Array.mk l).push x = Array.mk (l ++ [x]) from by simp [Array.push, List.concat_eq_append]]
theorem Go.keys {a : Addr} {o : Obj} {l : List DictEntry} {m : Nat} {part : Option Value} (x : DictEntry) (ha : Nat.blt a z = true) (hb : Nat.ble 28 a = true) (h : T.get a = some o) (hl : l.length < 1000) :
  Go w os 3 (updateDictKeys a (·.push x) part) (put T a l m) z k p () (put T a (l ++ [x]) (m + 1)) z k p := by
 unfold updateDictKeys
 refine Go.bind (n := 1) (n₁ := 2) (Go.load (o := dictO l m) ha (put_get h) rfl) ?_
 refine Go.bind (n := 1) (n₁ := 1) (Go.update (o := dictO l m) ha (put_get h) rfl hb) ?_
 rw [put_keys x h]
 unfold lookBehind
 refine Go.bind (n := 1) (n₁ := 0) (Go.load (o := dictO (l ++ [x]) (m + 1)) ha (put_get h) rfl) ?_
 have e : (dictO (l ++ [x]) (m + 1)).data.pastItsLine = none := by
  show (if (Array.mk (l ++ [x])).size > sizeLine + 1 then some "dict:memory" else none) = none
  rw [if_neg]
  have : (Array.mk (l ++ [x])).size = l.length + 1 := by simp
  rw [this, sizeLine_eq]; lia
 rw [e]
 exact Go.pure _
theorem Go.dictSet {a : Addr} {o : Obj} {l : List DictEntry} {m : Nat} {x : Int × Str} {t u : Nat} (ha : Nat.blt a z = true) (hb : Nat.ble 28 a = true) (h : T.get a = some o) (hl : l.length < 1000)
  (h0 : 0 ≤ x.1) (h1 : x.1 < 2 ^ 60) (hn : ∀ y ∈ l, y.hash ≠ x.1) :
  Go w os 10 (PySem.dictSet a (.int x.1 t) (.str x.2 u)) (put T a l m) z k p () (put T a (l ++ [⟨x.1, .int x.1 t, .str x.2 u⟩]) (m + 1)) z (k + 1) p := by
 unfold PySem.dictSet
 refine Go.holding _ (Go.bind (n := 5) (n₁ := 5) (Go.hash h0 h1) ?_)
 unfold dictSetHashed
 refine Go.holding _ (Go.bind (n := 1) (n₁ := 4) (Go.find ha (put_get h) hn) ?_)
 exact Go.bind (n := 1) (n₁ := 3) (Go.rule _) (Go.keys _ ha hb h hl)
theorem Go.put {a : Addr} {o : Obj} {l : List DictEntry} {m : Nat} {i : Int} {t : Nat} {v : Value} (ha : Nat.blt a z = true) (hb : Nat.ble 28 a = true) (h : T.get a = some o) (hl : l.length < 1000)
  (hn : ∀ y ∈ l, y.hash ≠ i) :
  Go w os 4 (dictPut a i (.int i t) v) (put T a l m) z k p () (put T a (l ++ [⟨i, .int i t, v⟩]) (m + 1)) z k p := by
 unfold dictPut
 exact Go.bind (n := 1) (n₁ := 3) (Go.find ha (put_get h) hn) (Go.keys _ ha hb h hl)
end
noncomputable def mk (dp : Pos) (x : Int × Str) : Sem Value × Sem Value := (mkInt x.1, do let v ← mkText x.2; standAt dp; pure v)
noncomputable def IsBe (y : DictEntry) : Prop := ∃ t, y.key = .int y.hash t
structure Apart (l : List DictEntry) (xs : List (Int × Str)) : Prop where
 low : ∀ y ∈ l, ∀ x ∈ xs, y.hash < x.1
 up : xs.Pairwise (·.1 < ·.1)
 fit : ∀ x ∈ xs, 0 ≤ x.1 ∧ x.1 < 2 ^ 60
 size : l.length + xs.length ≤ 1000
section
variable {α β γ : Type} {w : World} {os : OsState} {T T₁ T₂ : BT} {z k n z₁ k₁ n₁ z₂ k₂ : Nat} {p dp p₁ p₂ : Pos}
theorem Go.bind0 {m : Sem α} {f : α → Sem β} {a : α} {b : β} (h : Go w os n m T z k p a T₁ z₁ k₁ p₁) (h' : Go w os 0 (f a) T₁ z₁ k₁ p₁ b T₂ z₂ k₂ p₂) :
  Go w os n (m >>= f) T z k p b T₂ z₂ k₂ p₂ := (Go.bind h h').cast (Nat.zero_add _) rfl rfl rfl rfl
theorem Go.bind1 {m : Sem α} {f : α → Sem β} {a : α} {b : β} (h : Go w os 1 m T z k p a T₁ z₁ k₁ p₁) (h' : Go w os n (f a) T₁ z₁ k₁ p₁ b T₂ z₂ k₂ p₂) :
  Go w os (n + 1) (m >>= f) T z k p b T₂ z₂ k₂ p₂ := Go.bind h h'
theorem Go.for_cons {f : γ → β → Sem (ForInStep β)} {c : γ} {r : List γ} {b b' b'' : β} (h : Go w os n (f c b) T z k p (.yield b') T₁ z₁ k₁ p₁) (h' : Go w os n₁ (forIn r b' f) T₁ z₁ k₁ p₁ b'' T₂ z₂ k₂ p₂) :
  Go w os (n₁ + n) (forIn (c :: r) b f) T z k p b'' T₂ z₂ k₂ p₂ := by
 rw [List.forIn_cons]
 exact Go.bind h h'
theorem Apart.step {l : List DictEntry} {x : Int × Str} {xs : List (Int × Str)} {t u : Nat} (h : Apart l (x :: xs)) : Apart (l ++ [⟨x.1, .int x.1 t, .str x.2 u⟩]) xs := by
 obtain ⟨h1, h2, h3, h4⟩ := h
 rw [List.pairwise_cons] at h2
 refine ⟨fun y hy x' hx' => ?_, h2.2, fun x' hx' => h3 x' (.tail _ hx'), by simp at h4 ⊢; lia⟩
 rcases List.mem_append.mp hy with hy | hy
 ·exact h1 y hy x' (.tail _ hx')
 ·rw [List.mem_singleton.mp hy]; exact h2.1 x' hx'
theorem go_fill {d : Addr} {o : Obj} (h : T.get d = some o) (f : Sem Value × Sem Value → PUnit → Sem (ForInStep PUnit))
  (hf : ∀ (x : Int × Str) (l : List DictEntry) (m k : Nat), l.length < 1000 → 0 ≤ x.1 → x.1 < 2 ^ 60 → (∀ y ∈ l, y.hash ≠ x.1) →
   Go w os 13 (f (mk dp x) PUnit.unit) (Dom.put T d l m) z k dp (ForInStep.yield PUnit.unit) (Dom.put T d (l ++ [be k x]) (m + 1)) z (k + 3) dp) :
  ∀ (xs : List (Int × Str)) (l : List DictEntry) (m k : Nat), Apart l xs →
  Go w os (13 * xs.length) (forIn (xs.map (mk dp)) PUnit.unit f) (Dom.put T d l m) z k dp PUnit.unit (Dom.put T d (l ++ bes k xs) (m + xs.length)) z (k + 3 * xs.length) dp
 | [], l, m, k, _ => by
  show Go w os 0 (Pure.pure PUnit.unit) _ _ _ _ _ _ _ _ _
  rw [show bes k [] = [] from rfl, List.append_nil]
  exact Go.pure _
 | x :: xs, l, m, k, A => by
  have hx := A.fit x (.head _)
  have hl : l.length < 1000 := by have := A.size; simp at this; lia
  have s1 := hf x l m k hl hx.1 hx.2 (fun y hy => by have := A.low y hy x (.head _); lia)
  have ih := go_fill h f hf xs (l ++ [be k x]) (m + 1) (k + 3) A.step
  rw [List.map_cons]
  refine (Go.for_cons s1 ih).cast (by simp only [List.length_cons]; lia) rfl ?_ rfl (by simp only [List.length_cons]; lia)
  rw [show bes k (x :: xs) = be k x :: bes (k + 3) xs from rfl, List.append_assoc, List.length_cons]
  congr 1
  lia
theorem go_pair {d : Addr} {o : Obj} (hd : Nat.blt d z = true) (hb : Nat.ble 28 d = true) (h : T.get d = some o) {x : Int × Str} {l : List DictEntry} {m k : Nat} (hl : l.length < 1000) (h0 : 0 ≤ x.1) (h1 : x.1 < 2 ^ 60) (hn : ∀ y ∈ l, y.hash ≠ x.1)
  {g : Sem (ForInStep PUnit)} (hg : g = Pure.pure (ForInStep.yield PUnit.unit)) :
  Go w os 13 ((mk dp x).1 >>= fun kv => holding [kv] (mk dp x).2 >>= fun vv => holding [kv, vv] (dictSet d kv vv) >>= fun _ => g) (Dom.put T d l m) z k dp (ForInStep.yield PUnit.unit) (Dom.put T d (l ++ [be k x]) (m + 1)) z (k + 3) dp := by
 subst hg
 unfold mk
 have a1 : Go w os 1 (mkInt x.1) (Dom.put T d l m) z k dp (Value.int x.1 k) (Dom.put T d l m) z (k + 1) dp := Go.bind (n := 1) (n₁ := 0) Go.fresh (Go.pure _)
 have a2 : Go w os 1 (mkText x.2) (Dom.put T d l m) z (k + 1) dp (Value.str x.2 (k + 1)) (Dom.put T d l m) z (k + 2) dp := Go.bind (n := 1) (n₁ := 0) Go.fresh (Go.pure _)
 have a3 : Go w os 2 (do let v ← mkText x.2; standAt dp; pure v) (Dom.put T d l m) z (k + 1) dp (Value.str x.2 (k + 1)) (Dom.put T d l m) z (k + 2) dp := Go.bind (n := 1) (n₁ := 1) a2 (Go.bind (n := 1) (n₁ := 0) (Go.at dp) (Go.pure _))
 have a4 := Go.dictSet (w := w) (os := os) (k := k + 2) (p := dp) (m := m) (t := k) (u := k + 1) hd hb h hl h0 h1 hn
 exact Go.bind (n := 1) (n₁ := 12) a1 (Go.bind (n := 2) (n₁ := 10) (Go.holding _ a3) (Go.bind (n := 10) (n₁ := 0) (Go.holding _ a4) (Go.pure _)))
theorem go_merge {d a : Addr} {o : Obj} {ls : List DictEntry} {ms : Nat} (hd : Nat.blt d z = true) (hb : Nat.ble 28 d = true) (h : T.get d = some o) (ha : Nat.blt a z = true) (hne : a ≠ d) (hs : T.get a = some (dictO ls ms))
  (hk : ∀ y ∈ ls, IsBe y) (f : Nat → PUnit → Sem (ForInStep PUnit))
  (hf : ∀ i, f i PUnit.unit = (dictEntries a >>= fun es => match es[i]? with
   | some e => holding [e.key, e.val] (dictPut d e.hash e.key e.val) >>= fun _ => dictEpoch a >>= fun ep => if (ep != ms) = true then unsupported "dict.changed-during-merge" >>= fun (_ : Unit) => pure (ForInStep.yield PUnit.unit) else pure (ForInStep.yield PUnit.unit)
   | _ => unsupported "dict.changed-during-merge" >>= fun (_ : Unit) => pure (ForInStep.yield PUnit.unit))) :
  ∀ (n i : Nat) (l : List DictEntry) (m : Nat), i + n = ls.length → (∀ y ∈ l, ∀ x ∈ ls.drop i, y.hash < x.hash) → (ls.drop i).Pairwise (·.hash < ·.hash) → l.length + n ≤ 1000 →
  Go w os (6 * n) (forIn (List.range' i n) PUnit.unit f) (Dom.put T d l m) z k p PUnit.unit (Dom.put T d (l ++ ls.drop i) (m + n)) z k p
 | 0, i, l, m, e, _, _, _ => by
  rw [List.drop_eq_nil_of_le (by lia), List.append_nil]
  exact Go.pure _
 | n + 1, i, l, m, e, lo, up, sz => by
  have hi : i < ls.length := by lia
  have hdr : ls.drop i = ls[i] :: ls.drop (i + 1) := List.drop_eq_getElem_cons hi
  rw [hdr] at lo up
  rw [List.pairwise_cons] at up
  obtain ⟨t, ht⟩ := hk ls[i] (List.getElem_mem hi)
  have g : (Dom.put T d l m).get a = some (dictO ls ms) := by rw [Dom.put_ne hne]; exact hs
  have g' : (Dom.put T d (l ++ [ls[i]]) (m + 1)).get a = some (dictO ls ms) := by rw [Dom.put_ne hne]; exact hs
  have s1 : Go w os 6 (f i PUnit.unit) (Dom.put T d l m) z k p (ForInStep.yield PUnit.unit) (Dom.put T d (l ++ [ls[i]]) (m + 1)) z k p := by
   have e1 : (Array.mk ls)[i]? = some ls[i] := by simp [hi]
   rw [hf]
   refine Go.bind (n := 1) (n₁ := 5) (Go.entries ha g) ?_
   rw [e1]
   have a4 := Go.put (w := w) (os := os) (z := z) (k := k) (p := p) (m := m) (i := ls[i].hash) (t := t) (v := ls[i].val) hd hb h (by lia : l.length < 1000) (fun y hy => by have := lo y hy ls[i] (.head _); lia)
   rw [← ht] at a4
   refine Go.bind (n := 4) (n₁ := 1) (Go.holding _ a4) ?_
   refine Go.bind (n := 1) (n₁ := 0) (Go.epoch ha g') ?_
   rw [if_neg (by simp)]
   exact Go.pure _
  have ih := go_merge hd hb h ha hne hs hk f hf n (i + 1) (l ++ [ls[i]]) (m + 1) (by lia) (fun y hy x hx => by
    rcases List.mem_append.mp hy with hy | hy
    ·exact lo y hy x (.tail _ hx)
    ·rw [List.mem_singleton.mp hy]; exact up.1 x hx) up.2 (by simp; lia)
  rw [List.range'_succ]
  refine (Go.for_cons s1 ih).cast (by lia) rfl ?_ rfl rfl
  rw [hdr, List.append_assoc]
  congr 1
  lia
noncomputable def All (T : BT) (z : Nat) : Prop := ∀ i, i < z → (T.get i).isSome = true
theorem All.ins (o : Obj) : ∀ {T : BT} {z : Nat}, All T z → ((T.ins z o).get z).isSome = true
 | .nil, z, h => by
  have : z = 0 := by
   cases z with
   | zero => rfl
   | succ z => have := h 0 (Nat.succ_pos _); simp [BT.get] at this
  subst this; rfl
 | .node v l r, z, h => by
  rw [BT.ins_node]
  by_cases h0 : z = 0
  ·simp [h0, BT.get_node]
  ·rw [if_neg h0]
   by_cases q : z % 2 = 1
   ·rw [if_pos q, BT.get_node, if_neg h0, if_pos q]
    refine All.ins o fun j hj => ?_
    have := h (2 * j + 1) (by lia)
    rw [BT.get_node, if_neg (by lia), if_pos (by lia)] at this
    rwa [show (2 * j + 1) / 2 = j by lia] at this
   ·rw [if_neg q, BT.get_node, if_neg h0, if_neg q]
    refine All.ins o fun j hj => ?_
    have := h (2 * j + 2) (by lia)
    rw [BT.get_node, if_neg (by lia), if_neg (by lia)] at this
    rwa [show (2 * j + 2) / 2 - 1 = j by lia] at this
theorem All.next {o : Obj} (h : All T z) : All (T.ins z o) (z + 1) := fun i hi => by
 rw [BT.get_ins o T z (h.ins o)]
 by_cases e : i = z
 ·rw [if_pos e]; rfl
 ·rw [if_neg e]; exact h i (by lia)
theorem All.put {a : Nat} {l : List DictEntry} {m : Nat} (h : All T z) : All (Dom.put T a l m) z := fun i hi => by
 unfold Dom.put
 rw [BT.get_set]
 by_cases e : i = a
 ·rw [if_pos e, e.symm]
  have := h i hi
  revert this
  cases T.get i <;> simp
 ·rw [if_neg e]; exact h i hi
theorem put_self {d : Addr} {l : List DictEntry} {m : Nat} (hg : T.get d = some (dictO l m)) : T = Dom.put T d l m := by
 unfold Dom.put
 have id_set : ∀ (T : BT) (a : Nat), T.set a (fun o => o) = T := by
  intro T
  induction T with
  | nil => intro a; rfl
  | node v l r ihl ihr =>
   intro a
   rw [BT.set_node, ihl, ihr]
   by_cases h0 : a = 0
   ·rw [if_pos h0]
   ·rw [if_neg h0, ite_self]
 rw [← set_congr (f := fun o => o) hg rfl, id_set]
theorem go_fill0 {d : Addr} (h : T.get d = some (dictO [] 0)) (f : Sem Value × Sem Value → PUnit → Sem (ForInStep PUnit)) (xs : List (Int × Str)) (A : Apart [] xs)
  (hf : ∀ (x : Int × Str) (l : List DictEntry) (m k : Nat), l.length < 1000 → 0 ≤ x.1 → x.1 < 2 ^ 60 → (∀ y ∈ l, y.hash ≠ x.1) →
   Go w os 13 (f (mk dp x) PUnit.unit) (Dom.put T d l m) z k dp (ForInStep.yield PUnit.unit) (Dom.put T d (l ++ [be k x]) (m + 1)) z (k + 3) dp) :
  Go w os (13 * xs.length) (forIn (xs.map (mk dp)) PUnit.unit f) T z k dp PUnit.unit (Dom.put T d (bes k xs) xs.length) z (k + 3 * xs.length) dp := by
 have := go_fill h f hf xs [] 0 k A
 rwa [← put_self h, List.nil_append, Nat.zero_add] at this
theorem go_sub {xs : List (Int × Str)} (h : All T z) (hz : Nat.ble 28 z = true) (A : Apart [] xs) (hl : 15 < xs.length) :
  Go w os (13 * xs.length + 2) (subDict (xs.map (mk dp))) T z k dp z (Dom.put (T.ins z (dictO [] 0)) z (bes k xs) xs.length) (z + 1) (k + 3 * xs.length) dp := by
 have hg : (T.ins z (dictO [] 0)).get z = some (dictO [] 0) := by rw [BT.get_ins _ T z (h.ins _), if_pos rfl]
 have hlt : Nat.blt z (z + 1) = true := Nat.ble_eq_true_of_le (Nat.le_refl _)
 unfold subDict
 refine Go.bind1 (n := 13 * xs.length + 1) (Go.alloc (o := dictO [] 0) (h.ins _)) ?_
 refine Go.bind0 (a := ()) (Go.holding _ ?_) (Go.pure z)
 rw [if_neg (by rw [List.length_map]; lia)]
 refine Go.bind1 (Go.rule _) ?_
 refine Go.bind0 (a := PUnit.unit) (go_fill0 hg _ xs A ?_) (Go.pure _)
 intro x l m k hl h0 h1 hn
 exact go_pair hlt hz hg hl h0 h1 hn rfl
end
section
variable {α β γ : Type} {w : World} {os : OsState} {T T₁ T₂ : BT} {z k n z₁ k₁ n₁ z₂ k₂ : Nat} {p dp p₁ p₂ : Pos}
theorem Go.typeOf {a : Addr} {l : List DictEntry} {m : Nat} (ha : Nat.blt a z = true) (ho : T.get a = some (dictO l m)) : Go w os 1 (PySem.typeOf (.ref a)) T z k p (Value.type "dict") T z k p := by
 unfold PySem.typeOf
 exact Go.bind0 (Go.load (part := some headPart) (o := dictO l m) ha ho rfl) (Go.pure _)
theorem Go.of_eq {m : Sem α} {a : α} (e : m = Pure.pure a) : Go w os 0 m T z k p a T z k p := by rw [e]; exact Go.pure _
theorem sub_dict : isSubtype (.type "dict") (.type "dict") = pure true := by rw [isSubtype_type]; kernel_rfl
theorem look_iter : typeLookup (.type "dict") (Str.ofString "__iter__") = pure (some (.builtin "dict.__iter__")) := by rw [typeLookup_type, builtinLookup_eq_fast]; kernel_rfl
theorem go_isInst {a : Addr} {l : List DictEntry} {m : Nat} (ha : Nat.blt a z = true) (ho : T.get a = some (dictO l m)) : Go w os 1 (isInstance (.ref a) (.type "dict")) T z k p true T z k p := by
 unfold isInstance
 exact Go.bind0 (Go.typeOf ha ho) (Go.of_eq sub_dict)
theorem go_iter {a : Addr} {l : List DictEntry} {m : Nat} (ha : Nat.blt a z = true) (ho : T.get a = some (dictO l m)) : Go w os 1 (specialOf (.ref a) (Str.ofString "__iter__")) T z k p (some (Value.builtin "dict.__iter__")) T z k p := by
 unfold specialOf
 exact Go.bind0 (Go.typeOf ha ho) (Go.of_eq look_iter)
theorem go_mergeMapping {d a : Addr} {o : Obj} {ls l : List DictEntry} {ms m : Nat} (hd : Nat.blt d z = true) (hb : Nat.ble 28 d = true) (h : T.get d = some o) (ha : Nat.blt a z = true) (hne : a ≠ d) (hs : T.get a = some (dictO ls ms))
  (hk : ∀ y ∈ ls, IsBe y) (h28 : Nat.ble 28 a = true) (hl : l ≠ []) (lo : ∀ y ∈ l, ∀ x ∈ ls, y.hash < x.hash) (up : ls.Pairwise (·.hash < ·.hash)) (sz : l.length + ls.length ≤ 1000) :
  Go w os (6 * ls.length + 5) (mergeMapping d (.ref a) false) (Dom.put T d l m) z k p () (Dom.put T d (l ++ ls) (m + ls.length)) z k p := by
 have g : (Dom.put T d l m).get a = some (dictO ls ms) := by rw [Dom.put_ne hne]; exact hs
 have gd : (Dom.put T d l m).get d = some (dictO l m) := Dom.put_get h
 unfold mergeMapping
 refine Go.bind1 (n := 6 * ls.length + 4) (go_isInst ha g) ?_
 ·rw [if_pos rfl]
  refine Go.bind1 (n := 6 * ls.length + 3) (go_iter ha g) ?_
  ·refine Go.bind (n := 0) (n₁ := 6 * ls.length + 3) (Go.pure _) ?_
   rw [show ((some (Value.builtin "dict.__iter__")) == some (Value.builtin "dict.__iter__")) = true from by decide]
   dsimp only
   have e2 : (a == sysModules) = false := by
    simp only [beq_eq_false_iff_ne]
    intro e; rw [e] at h28; exact absurd h28 (by decide)
   rw [e2, if_neg (by decide)]
   refine Go.bind1 (n := 6 * ls.length + 2) (Go.entries hd gd) ?_
   rw [if_neg (by cases l with | nil => exact absurd rfl hl | cons x r => simp)]
   refine Go.bind1 (n := 6 * ls.length + 1) (Go.entries ha g) ?_
   refine Go.bind1 (n := 6 * ls.length) (Go.epoch ha g) ?_
   rw [show (Array.mk ls).size = ls.length from by simp, List.range_eq_range']
   refine Go.bind0 (a := PUnit.unit) ?_ (Go.pure _)
   have := fun f hf => go_merge (w := w) (os := os) (k := k) (p := p) hd hb h ha hne hs hk f hf ls.length 0 l m (by lia) (by simpa using lo) (by simpa using up) sz
   rw [List.drop_zero] at this
   exact this _ (fun i => rfl)
end
noncomputable def Pre {α : Type} (w : World) (os : OsState) (n : Nat) (m : Sem α) (T : BT) (z k : Nat) (p : Pos) (m' : Sem α) (T' : BT) (z' k' : Nat) (p' : Pos) : Prop :=
 ∀ (K : α → Sem Fin) (H : Value → Sem Fin) (gd : Bool → Bool) (lv : List Value → List Value) (N : Nat),
  segRunT treeTable pr w 28 ann 1 (N + n) (mkS T z k os) ⟨m.wrap K H gd lv, cE, p, B0⟩ = segRunT treeTable pr w 28 ann 1 N (mkS T' z' k' os) ⟨m'.wrap K H gd lv, cE, p', B0⟩
noncomputable def item (dp : Pos) (x : Int × Str) : Option (Sem Value) × Sem Value := (some (mk dp x).1, (mk dp x).2)
noncomputable def grp : BT → Nat → Nat → List DictEntry → Nat → List (List (Int × Str)) → BT
 | T, _, _, _, _, [] => T
 | T, z, k, l, m, c :: cs => grp (put (put (T.ins z (dictO [] 0)) z (bes k c) 17) 84 (l ++ bes k c) (m + 17)) (z + 1) (k + 51) (l ++ bes k c) (m + 17) cs
section
variable {α β γ : Type} {w : World} {os : OsState} {T T₁ T₂ : BT} {z k n z₁ k₁ n₁ z₂ k₂ : Nat} {p dp p₁ p₂ : Pos}
theorem Pre.refl (m : Sem α) : Pre w os 0 m T z k p m T z k p := fun _ _ _ _ _ => rfl
theorem Pre.trans {m m₁ m₂ : Sem α} (h : Pre w os n m T z k p m₁ T₁ z₁ k₁ p₁) (h' : Pre w os n₁ m₁ T₁ z₁ k₁ p₁ m₂ T₂ z₂ k₂ p₂) : Pre w os (n₁ + n) m T z k p m₂ T₂ z₂ k₂ p₂ := fun K H gd lv N => by
 rw [← Nat.add_assoc]; exact (h K H gd lv _).trans (h' K H gd lv N)
theorem Pre.bind {m m' : Sem α} (f : α → Sem β) (h : Pre w os n m T z k p m' T₁ z₁ k₁ p₁) : Pre w os n (m >>= f) T z k p (m' >>= f) T₁ z₁ k₁ p₁ := fun K H gd lv N => by
 rw [Sem.bind_eq_wrap', Sem.bind_eq_wrap', Sem.wrap_wrap, Sem.wrap_wrap]; exact h _ _ _ _ N
theorem Go.then {m : Sem α} {f : α → Sem β} {a : α} (h : Go w os n m T z k p a T₁ z₁ k₁ p₁) : Pre w os n (m >>= f) T z k p (f a) T₁ z₁ k₁ p₁ := fun K H gd lv N => by
 rw [Sem.bind_eq_wrap', Sem.wrap_wrap]; exact h _ _ _ _ N
theorem Pre.cast {m m' : Sem α} {n' : Nat} (h : Pre w os n m T z k p m' T₁ z₁ k₁ p₁) (hn : n = n') (hT : T₁ = T₂) (hz : z₁ = z₂) (hk : k₁ = k₂) : Pre w os n' m T z k p m' T₂ z₂ k₂ p₁ := by
 subst hn hT hz hk; exact h
theorem Pre.for_cons {f : γ → β → Sem (ForInStep β)} {c : γ} {r : List γ} {b b' : β} (h : Go w os n (f c b) T z k p (.yield b') T₁ z₁ k₁ p₁) :
  Pre w os n (forIn (c :: r) b f) T z k p (forIn r b' f) T₁ z₁ k₁ p₁ := by
 rw [List.forIn_cons]
 exact h.then (f := fun (s : ForInStep β) => match s with
  | .done b => pure b
  | .yield b => forIn r b f)
theorem isBe_bes : ∀ {k : Nat} {xs : List (Int × Str)}, ∀ y ∈ bes k xs, IsBe y
 | k, [], y, h => by cases h
 | k, x :: xs, y, h => by
  rcases List.mem_cons.mp h with rfl | h
  ·exact ⟨k, rfl⟩
  ·exact isBe_bes y h
theorem bes_hash : ∀ {k : Nat} {xs : List (Int × Str)}, (bes k xs).map (·.hash) = xs.map (·.1)
 | k, [] => rfl
 | k, x :: xs => by
  show x.1 :: (bes (k + 3) xs).map (·.hash) = x.1 :: xs.map (·.1)
  rw [bes_hash]
theorem bes_len {k : Nat} {xs : List (Int × Str)} : (bes k xs).length = xs.length := by
 have := congrArg List.length (bes_hash (k := k) (xs := xs)); simpa using this
theorem bes_mem {k : Nat} {xs : List (Int × Str)} {y : DictEntry} (h : y ∈ bes k xs) : ∃ x ∈ xs, y.hash = x.1 := by
 have : y.hash ∈ (bes k xs).map (·.hash) := List.mem_map_of_mem h
 rw [bes_hash] at this
 obtain ⟨x, hx, e⟩ := List.mem_map.mp this
 exact ⟨x, hx, e.symm⟩
theorem bes_up {k : Nat} {xs : List (Int × Str)} (h : xs.Pairwise (·.1 < ·.1)) : (bes k xs).Pairwise (·.hash < ·.hash) := by
 have h1 : (xs.map (·.1)).Pairwise (· < ·) := List.pairwise_map.mpr h
 rw [← bes_hash (k := k)] at h1
 exact List.pairwise_map.mp h1
theorem Apart.left {l : List DictEntry} {xs ys : List (Int × Str)} (h : Apart l (xs ++ ys)) : Apart l xs :=
 ⟨fun y hy x hx => h.low y hy x (List.mem_append_left _ hx), (List.pairwise_append.mp h.up).1, fun x hx => h.fit x (List.mem_append_left _ hx), by have := h.size; simp at this; lia⟩
theorem Apart.none {l : List DictEntry} {xs : List (Int × Str)} (h : Apart l xs) : Apart [] xs := ⟨fun y hy => (nomatch hy), h.up, h.fit, by have := h.size; simp only [List.length_nil]; lia⟩
theorem Apart.right {l : List DictEntry} {xs ys : List (Int × Str)} {k : Nat} (h : Apart l (xs ++ ys)) : Apart (l ++ bes k xs) ys := by
 refine ⟨fun y hy x hx => ?_, (List.pairwise_append.mp h.up).2.1, fun x hx => h.fit x (List.mem_append_right _ hx), by have := h.size; simp [bes_len] at this ⊢; lia⟩
 rcases List.mem_append.mp hy with hy | hy
 ·exact h.low y hy x (List.mem_append_right _ hx)
 ·obtain ⟨x', hx', e⟩ := bes_mem hy
  rw [e]; exact (List.pairwise_append.mp h.up).2.2 x' hx' x hx
theorem pre_take {f : Option (Sem Value) × Sem Value → Option Addr × List (Sem Value × Sem Value) → Sem (ForInStep (Option Addr × List (Sem Value × Sem Value)))} {main : Option Addr}
  (hf : ∀ (x : Int × Str) (run : List (Sem Value × Sem Value)), run.length < 16 → f (item dp x) (main, run) = pure (.yield (main, run ++ [mk dp x]))) (rest : List (Option (Sem Value) × Sem Value)) :
  ∀ (ys : List (Int × Str)) (run : List (Sem Value × Sem Value)), run.length + ys.length ≤ 16 →
   Pre w os 0 (forIn (ys.map (item dp) ++ rest) (main, run) f) T z k p (forIn rest (main, run ++ ys.map (mk dp)) f) T z k p
 | [], run, _ => by
  rw [List.map_nil, List.nil_append, List.map_nil, List.append_nil]; exact Pre.refl _
 | y :: ys, run, h => by
  simp only [List.length_cons] at h
  rw [List.map_cons, List.cons_append]
  refine Pre.trans (n := 0) (n₁ := 0) (Pre.for_cons (b' := (main, run ++ [mk dp y])) (Go.of_eq (hf y run (by lia)))) ?_
  have := pre_take hf rest ys (run ++ [mk dp y]) (by simp; lia)
  rw [List.append_assoc] at this
  exact this
end
section
variable {α β γ : Type} {w : World} {os : OsState} {T T₁ T₂ : BT} {z k n z₁ k₁ n₁ z₂ k₂ : Nat} {p dp p₁ p₂ : Pos}
theorem go_flush {l : List DictEntry} {m : Nat} {c : List (Int × Str)} (hc : c.length = 17) (A : Apart l c) (hl : l ≠ []) (h : T.get 84 = some (dictO l m)) (F : All T z) (hz : 85 ≤ z) (hs : Value → Sem Unit) :
  Go w os 330 (holding [Value.ref 84] (subDict (c.map (mk dp))) >>= fun sub => ((holding [Value.ref 84, Value.ref sub] (mergeMapping 84 (Value.ref sub) false)).onRaise hs) >>= fun _ => pure (some (84 : Addr))) T z k dp (some 84)
   (put (put (T.ins z (dictO [] 0)) z (bes k c) 17) 84 (l ++ bes k c) (m + 17)) (z + 1) (k + 51) dp := by
 have s1 := go_sub (w := w) (os := os) (dp := dp) (k := k) F (Nat.ble_eq_true_of_le (by lia : 28 ≤ z)) A.none (by lia)
 rw [hc] at s1
 have hne : (84 : Nat) ≠ z := by lia
 have g84 : (put (T.ins z (dictO [] 0)) z (bes k c) 17).get 84 = some (dictO l m) := by
  rw [put_ne hne, BT.get_ins _ T z (F.ins _), if_neg hne]; exact h
 have gz : (put (T.ins z (dictO [] 0)) z (bes k c) 17).get z = some (dictO (bes k c) 17) := put_get (o := dictO [] 0) (by rw [BT.get_ins _ T z (F.ins _), if_pos rfl])
 have s2 := go_mergeMapping (w := w) (os := os) (T := put (T.ins z (dictO [] 0)) z (bes k c) 17) (z := z + 1) (k := k + 3 * 17) (p := dp) (d := 84) (a := z) (o := dictO l m) (ls := bes k c) (l := l) (ms := 17) (m := m)
  (Nat.ble_eq_true_of_le (by lia : 84 < z + 1)) (by decide) g84 (Nat.ble_eq_true_of_le (Nat.le_refl _)) (Ne.symm hne) gz isBe_bes (Nat.ble_eq_true_of_le (by lia : 28 ≤ z)) hl
  (fun y hy x hx => by obtain ⟨x', hx', e⟩ := bes_mem hx; rw [e]; exact A.low y hy x' hx') (bes_up A.up) (by have := A.size; rw [bes_len]; lia)
 rw [← put_self g84, bes_len, hc] at s2
 refine Go.bind (n := 13 * 17 + 2) (n₁ := 107) (Go.holding _ s1) ?_
 exact Go.bind0 (Go.onRaise _ (Go.holding _ s2)) (Go.pure _)
theorem go_groups {f : Option (Sem Value) × Sem Value → Option Addr × List (Sem Value × Sem Value) → Sem (ForInStep (Option Addr × List (Sem Value × Sem Value)))}
  (hf : ∀ (x : Int × Str) (run : List (Sem Value × Sem Value)), run.length < 16 → f (item dp x) (some 84, run) = pure (.yield (some 84, run ++ [mk dp x])))
  (hs : Value → Sem Unit)
  (hg : ∀ (x : Int × Str) (run : List (Sem Value × Sem Value)), run.length = 16 → f (item dp x) (some 84, run) =
   ((holding [Value.ref 84] (subDict (run ++ [mk dp x])) >>= fun sub => ((holding [Value.ref 84, Value.ref sub] (mergeMapping 84 (Value.ref sub) false)).onRaise hs) >>= fun _ => pure (some (84 : Addr))) >>= fun main => pure (.yield (main, []))))
  (rest : List (Option (Sem Value) × Sem Value)) :
  ∀ (cs : List (List (Int × Str))) (T : BT) (z k : Nat) (l : List DictEntry) (m : Nat), (∀ c ∈ cs, c.length = 17) → Apart l cs.flatten → l ≠ [] → T.get 84 = some (dictO l m) → All T z → 85 ≤ z →
   Pre w os (330 * cs.length) (forIn (cs.flatten.map (item dp) ++ rest) (some 84, []) f) T z k dp (forIn rest (some 84, []) f) (grp T z k l m cs) (z + cs.length) (k + 51 * cs.length) dp
 | [], T, z, k, l, m, _, _, _, _, _, _ => by
  rw [List.flatten_nil, List.map_nil, List.nil_append]; exact Pre.refl _
 | c :: cs, T, z, k, l, m, h17, A, hl, h, F, hz => by
  have hc := h17 c (.head _)
  rw [List.flatten_cons] at A
  have A1 := A.left
  have A2 := A.right (k := k)
  obtain ⟨ys, x, rfl⟩ : ∃ ys x, c = ys ++ [x] := by
   rcases List.eq_nil_or_concat c with e | ⟨ys, x, e⟩
   ·rw [e] at hc; simp at hc
   ·exact ⟨ys, x, by rw [e, List.concat_eq_append]⟩
  have hy : ys.length = 16 := by simp at hc; lia
  rw [List.flatten_cons, List.map_append, List.append_assoc, List.map_append, List.append_assoc]
  have t1 := pre_take (w := w) (os := os) (T := T) (z := z) (k := k) (p := dp) hf ((List.map (item dp) [x]) ++ (cs.flatten.map (item dp) ++ rest)) ys [] (by simp; lia)
  have t2 : Go w os 330 (f (item dp x) (some 84, [] ++ ys.map (mk dp))) T z k dp (.yield (some 84, [])) (put (put (T.ins z (dictO [] 0)) z (bes k (ys ++ [x])) 17) 84 (l ++ bes k (ys ++ [x])) (m + 17)) (z + 1) (k + 51) dp := by
   rw [hg x _ (by simp [hy]), List.nil_append, show ys.map (mk dp) ++ [mk dp x] = (ys ++ [x]).map (mk dp) from by simp]
   exact Go.bind0 (go_flush hc A1 hl h F hz hs) (Go.pure _)
  have ih := go_groups hf hs hg rest cs (put (put (T.ins z (dictO [] 0)) z (bes k (ys ++ [x])) 17) 84 (l ++ bes k (ys ++ [x])) (m + 17)) (z + 1) (k + 51) (l ++ bes k (ys ++ [x])) (m + 17)
   (fun c hc => h17 c (.tail _ hc)) A2 (by simp [hl]) (put_get (o := dictO l m) (by rw [put_ne (by lia : (84 : Nat) ≠ z), BT.get_ins _ T z (F.ins _), if_neg (by lia : (84 : Nat) ≠ z)]; exact h)) (F.next.put.put) (by lia)
  exact ((t1.trans (Pre.for_cons t2)).trans ih).cast (by simp only [List.length_cons]; lia) rfl (by simp only [List.length_cons]; lia) (by simp only [List.length_cons]; lia)
end
noncomputable def o84q (P : Params) : Obj := dictO (bes 401 (b3.take 646)) 646
noncomputable def t_q (P : Params) : BT := (.node (o0 P) (.node (o1 P) (.node (o3_p8 P) (.node o7 (.node o15 (.node o31 (.node o63 .nil .nil) (.node o95 .nil .nil)) (.node o47 (.node o79 .nil .nil) (.node o111 .nil .nil))) (.node o23 (.node o39 (.node o71 .nil .nil) (.node o103 .nil .nil)) (.node o55 (.node o87 .nil .nil) (.node o119 .nil .nil)))) (.node (o11 P) (.node o19 (.node o35 (.node o67 .nil .nil) (.node o99 .nil .nil)) (.node o51 (.node o83 .nil .nil) (.node o115 .nil .nil))) (.node o27 (.node o43 (.node o75 .nil .nil) (.node o107 .nil .nil)) (.node o59 (.node o91 .nil .nil) .nil)))) (.node o5 (.node o9 (.node o17 (.node o33 (.node o65 .nil .nil) (.node o97 .nil .nil)) (.node (o49 P) (.node o81 .nil .nil) (.node o113 .nil .nil))) (.node o25 (.node o41 (.node (o73 P) .nil .nil) (.node o105 .nil .nil)) (.node o57 (.node o89 .nil .nil) (.node o121 .nil .nil)))) (.node (o13 P) (.node (o21 P) (.node o37 (.node o69 .nil .nil) (.node o101 .nil .nil)) (.node o53 (.node o85 .nil .nil) (.node o117 .nil .nil))) (.node o29_p8 (.node o45 (.node o77 .nil .nil) (.node o109 .nil .nil)) (.node o61 (.node o93 .nil .nil) .nil))))) (.node (o2 P) (.node o4 (.node o8 (.node o16 (.node o32 (.node o64 .nil .nil) (.node o96 .nil .nil)) (.node o48 (.node o80 .nil .nil) (.node o112 .nil .nil))) (.node o24 (.node (o40 P) (.node o72 .nil .nil) (.node o104 .nil .nil)) (.node o56 (.node o88 .nil .nil) (.node o120 .nil .nil)))) (.node o12 (.node (o20 P) (.node o36 (.node o68 .nil .nil) (.node o100 .nil .nil)) (.node o52 (.node (o84q P) .nil .nil) (.node o116 .nil .nil))) (.node o28 (.node o44 (.node o76 .nil .nil) (.node o108 .nil .nil)) (.node o60 (.node o92 .nil .nil) .nil)))) (.node o6 (.node o10 (.node o18 (.node o34 (.node o66 .nil .nil) (.node o98 .nil .nil)) (.node o50 (.node o82 .nil .nil) (.node o114 .nil .nil))) (.node o26 (.node o42 (.node o74 .nil .nil) (.node o106 .nil .nil)) (.node (o58 P) (.node o90 .nil .nil) .nil))) (.node o14 (.node o22 (.node o38 (.node o70 .nil .nil) (.node o102 .nil .nil)) (.node o54 (.node o86 .nil .nil) (.node o118 .nil .nil))) (.node o30 (.node o46 (.node o78 .nil .nil) (.node o110 .nil .nil)) (.node o62 (.node o94 .nil .nil) .nil))))))
noncomputable def kOf : Stmt → List (Option PySem.Expr)
 | .Assign _ (.Dict ks _ _) _ => ks
 | _ => []
noncomputable def vOf : Stmt → List PySem.Expr
 | .Assign _ (.Dict _ vs _) _ => vs
 | _ => []
noncomputable def dpOf : Stmt → Pos
 | .Assign _ (.Dict _ _ p) _ => p
 | _ => ⟨0, 0, 0, 0⟩
noncomputable def chunks : Nat → List (Int × Str) → List (List (Int × Str))
 | 0, _ => []
 | j + 1, xs => xs.take 17 :: chunks j (xs.drop 17)
theorem chunks_flat : ∀ (j : Nat) (xs : List (Int × Str)), xs = (chunks j xs).flatten ++ xs.drop (17 * j)
 | 0, xs => by simp [chunks]
 | j + 1, xs => by
  have := chunks_flat j (xs.drop 17)
  rw [List.drop_drop] at this
  show xs = (xs.take 17 :: chunks j (xs.drop 17)).flatten ++ _
  rw [List.flatten_cons, List.append_assoc, show 17 * (j + 1) = 17 + 17 * j by lia, ← this, List.take_append_drop]
theorem chunks_len : ∀ (j : Nat) (xs : List (Int × Str)), 17 * j ≤ xs.length → ∀ c ∈ chunks j xs, c.length = 17
 | j + 1, xs, h, c, hc => by
  rcases List.mem_cons.mp hc with rfl | hc
  ·rw [List.length_take]; lia
  ·exact chunks_len j (xs.drop 17) (by rw [List.length_drop]; lia) c hc
theorem chunks_num : ∀ (j : Nat) (xs : List (Int × Str)), (chunks j xs).length = j
 | 0, _ => rfl
 | j + 1, xs => by show (chunks j _).length + 1 = _; rw [chunks_num]
noncomputable def asc : Int → List (Int × Str) → Bool
 | _, [] => true
 | a, x :: r => decide (a < x.1) && (decide (x.1 < 2 ^ 60) && asc x.1 r)
theorem asc_spec : ∀ (a : Int) (xs : List (Int × Str)), asc a xs = true → (∀ x ∈ xs, a < x.1 ∧ x.1 < 2 ^ 60) ∧ xs.Pairwise (·.1 < ·.1)
 | _, [], _ => ⟨fun _ h => (nomatch h), .nil⟩
 | a, x :: r, h => by
  unfold asc at h
  simp only [Bool.and_eq_true, decide_eq_true_eq] at h
  obtain ⟨h1, h2, h3⟩ := h
  obtain ⟨i1, i2⟩ := asc_spec x.1 r h3
  refine ⟨fun y hy => ?_, List.pairwise_cons.mpr ⟨fun y hy => (i1 y hy).1, i2⟩⟩
  rcases List.mem_cons.mp hy with rfl | hy
  ·exact ⟨h1, h2⟩
  ·exact ⟨by have := (i1 y hy).1; lia, (i1 y hy).2⟩
theorem b3_len : b3.length = 650 := by kernel_rfl
theorem b3_asc : asc (-1) b3 = true := by kernel_rfl
theorem b3_apart : Apart [] b3 := ⟨fun y hy => (nomatch hy), (asc_spec _ _ b3_asc).2, fun x hx => ⟨by have := ((asc_spec _ _ b3_asc).1 x hx).1; lia, ((asc_spec _ _ b3_asc).1 x hx).2⟩, by rw [b3_len]; decide⟩
theorem b3_items : (evalEachOpt (kOf (st 8)) env0).zip ((evalEach (vOf (st 8)) env0).map fun v => do let x ← v; standAt (dpOf (st 8)); pure x) = b3.map (item (dpOf (st 8))) := by kernel_rfl
theorem all_p8 (P : Params) : All (t_p8 P) 84 := by
 have h : (List.range 84).all (fun i => ((t_p8 P).get i).isSome) = true := by kernel_rfl
 intro i hi
 exact List.all_eq_true.mp h i (List.mem_range.mpr hi)
theorem grp_q (P : Params) : grp (put ((t_p8 P).ins 84 (dictO [] 0)) 84 (bes 401 (b3.take 17)) 17) 85 452 (bes 401 (b3.take 17)) 17 (chunks 37 (b3.drop 17)) = t_q P := by kernel_rfl
noncomputable def stT (t : Params → BT) (n toks : Nat) (w : World) (os : OsState) : SharedT := ⟨t w.params, n, {}, ⟨[]⟩, d0, toks, os⟩
noncomputable def sts (a b : Nat) : List Stmt := (body.drop a).take b
noncomputable def Piece (a b n : Nat) (t : Params → BT) (m k : Nat) (p : Pos) (t' : Params → BT) (m' k' : Nat) (p' : Pos) (w : World) : Prop :=
 ∀ os, segRunT treeTable pr w 28 ann 1 n (stT t m k w os) (piecesOf (sts a b) env0 cE p B0) = some (.next, stT t' m' k' w os, cE, p')
theorem go_first {w : World} {os : OsState} {T : BT} {z k : Nat} {dp : Pos} {c : List (Int × Str)} (hc : c.length = 17) (A : Apart [] c) (F : All T z) (hz : Nat.ble 28 z = true) :
  Go w os 223 (subDict (c.map (mk dp)) >>= fun a => pure (some a)) T z k dp (some z) (put (T.ins z (dictO [] 0)) z (bes k c) 17) (z + 1) (k + 51) dp := by
 have s1 := go_sub (w := w) (os := os) (dp := dp) (k := k) F hz A (by lia)
 rw [hc] at s1
 exact Go.bind0 s1 (Go.pure _)
noncomputable def t_r (P : Params) : BT := (.node (o0 P) (.node (o1 P) (.node (o3_p8 P) (.node o7 (.node o15 (.node o31 (.node o63 .nil .nil) (.node o95 .nil .nil)) (.node o47 (.node o79 .nil .nil) (.node o111 .nil .nil))) (.node o23 (.node o39 (.node o71 .nil .nil) (.node o103 .nil .nil)) (.node o55 (.node o87 .nil .nil) (.node o119 .nil .nil)))) (.node (o11 P) (.node o19 (.node o35 (.node o67 .nil .nil) (.node o99 .nil .nil)) (.node o51 (.node o83 .nil .nil) (.node o115 .nil .nil))) (.node o27 (.node o43 (.node o75 .nil .nil) (.node o107 .nil .nil)) (.node o59 (.node o91 .nil .nil) .nil)))) (.node o5 (.node o9 (.node o17 (.node o33 (.node o65 .nil .nil) (.node o97 .nil .nil)) (.node (o49 P) (.node o81 .nil .nil) (.node o113 .nil .nil))) (.node o25 (.node o41 (.node (o73 P) .nil .nil) (.node o105 .nil .nil)) (.node o57 (.node o89 .nil .nil) (.node o121 .nil .nil)))) (.node (o13 P) (.node (o21 P) (.node o37 (.node o69 .nil .nil) (.node o101 .nil .nil)) (.node o53 (.node o85 .nil .nil) (.node o117 .nil .nil))) (.node o29_p8 (.node o45 (.node o77 .nil .nil) (.node o109 .nil .nil)) (.node o61 (.node o93 .nil .nil) .nil))))) (.node (o2 P) (.node o4 (.node o8 (.node o16 (.node o32 (.node o64 .nil .nil) (.node o96 .nil .nil)) (.node o48 (.node o80 .nil .nil) (.node o112 .nil .nil))) (.node o24 (.node (o40 P) (.node o72 .nil .nil) (.node o104 .nil .nil)) (.node o56 (.node o88 .nil .nil) (.node o120 .nil .nil)))) (.node o12 (.node (o20 P) (.node o36 (.node o68 .nil .nil) (.node o100 .nil .nil)) (.node o52 (.node o84 .nil .nil) (.node o116 .nil .nil))) (.node o28 (.node o44 (.node o76 .nil .nil) (.node o108 .nil .nil)) (.node o60 (.node o92 .nil .nil) .nil)))) (.node o6 (.node o10 (.node o18 (.node o34 (.node o66 .nil .nil) (.node o98 .nil .nil)) (.node o50 (.node o82 .nil .nil) (.node o114 .nil .nil))) (.node o26 (.node o42 (.node o74 .nil .nil) (.node o106 .nil .nil)) (.node (o58 P) (.node o90 .nil .nil) (.node o122 .nil .nil)))) (.node o14 (.node o22 (.node o38 (.node o70 .nil .nil) (.node o102 .nil .nil)) (.node o54 (.node o86 .nil .nil) (.node o118 .nil .nil))) (.node o30 (.node o46 (.node o78 .nil .nil) (.node o110 .nil .nil)) (.node o62 (.node o94 .nil .nil) .nil))))))
noncomputable def vals : Nat → List (Int × Str) → List (Value × Value)
 | _, [] => []
 | k, x :: r => (.int x.1 k, .str x.2 (k + 1)) :: vals (k + 2) r
theorem go_evalPairs {w : World} {os : OsState} {T : BT} {z : Nat} {dp : Pos} : ∀ (xs : List (Int × Str)) (k : Nat), Go w os (3 * xs.length) (evalPairs (xs.map (mk dp))) T z k dp (vals k xs) T z (k + 2 * xs.length) dp
 | [], k => Go.pure _
 | x :: xs, k => by
  have a1 : Go w os 1 (mkInt x.1) T z k dp (Value.int x.1 k) T z (k + 1) dp := Go.bind0 Go.fresh (Go.pure _)
  have a2 : Go w os 1 (mkText x.2) T z (k + 1) dp (Value.str x.2 (k + 1)) T z (k + 2) dp := Go.bind0 Go.fresh (Go.pure _)
  have a3 : Go w os 2 (do let v ← mkText x.2; standAt dp; pure v) T z (k + 1) dp (Value.str x.2 (k + 1)) T z (k + 2) dp := Go.bind (n := 1) (n₁ := 1) a2 (Go.bind0 (Go.at dp) (Go.pure _))
  have ih := go_evalPairs (w := w) (os := os) (T := T) (z := z) (dp := dp) xs (k + 2)
  rw [List.map_cons]
  unfold evalPairs mk
  have tot : Go w os (3 * xs.length + 2 + 1) (mkInt x.1 >>= fun kv => holding [kv] (do let v ← mkText x.2; standAt dp; pure v) >>= fun vv => holding [kv, vv] (evalPairs (xs.map (mk dp))) >>= fun r => pure ((kv, vv) :: r)) T z k dp (vals k (x :: xs)) T z (k + 2 + 2 * xs.length) dp :=
   Go.bind1 a1 (Go.bind (Go.holding _ a3) (Go.bind0 (Go.holding _ ih) (Go.pure _)))
  exact tot.cast (by simp only [List.length_cons]; lia) rfl rfl rfl (by simp only [List.length_cons]; lia)
theorem go_sets {w : World} {os : OsState} {T : BT} {z : Nat} {dp : Pos} {d : Addr} {o : Obj} (hd : Nat.blt d z = true) (hb : Nat.ble 28 d = true) (h : T.get d = some o) (f : Value × Value → PUnit → Sem (ForInStep PUnit))
  (hf : ∀ k v, f (k, v) PUnit.unit = (PySem.dictSet d k v >>= fun _ => pure (ForInStep.yield PUnit.unit))) :
  ∀ (xs : List (Int × Str)) (l : List DictEntry) (m k t : Nat), Apart l xs → Go w os (10 * xs.length) (forIn (vals t xs) PUnit.unit f) (put T d l m) z k dp PUnit.unit (put T d (l ++ bes2 t xs) (m + xs.length)) z (k + xs.length) dp
 | [], l, m, k, t, _ => by
  show Go w os 0 (Pure.pure PUnit.unit) _ _ _ _ _ _ _ _ _
  rw [show bes2 t [] = [] from rfl, List.append_nil]
  exact Go.pure _
 | x :: xs, l, m, k, t, A => by
  have hx := A.fit x (.head _)
  have hl : l.length < 1000 := by have := A.size; simp at this; lia
  have s1 : Go w os 10 (f (.int x.1 t, .str x.2 (t + 1)) PUnit.unit) (put T d l m) z k dp (ForInStep.yield PUnit.unit) (put T d (l ++ [be t x]) (m + 1)) z (k + 1) dp := by
   rw [hf]
   exact Go.bind0 (Go.dictSet hd hb h hl hx.1 hx.2 (fun y hy => by have := A.low y hy x (.head _); lia)) (Go.pure _)
  have ih := go_sets (w := w) (os := os) (dp := dp) hd hb h f hf xs (l ++ [be t x]) (m + 1) (k + 1) (t + 2) A.step
  refine (Go.for_cons s1 ih).cast (by simp only [List.length_cons]; lia) rfl ?_ rfl (by simp only [List.length_cons]; lia)
  rw [show bes2 t (x :: xs) = be t x :: bes2 (t + 2) xs from rfl, List.append_assoc, List.length_cons]
  congr 1
  lia
theorem go_sub2 {w : World} {os : OsState} {T : BT} {z k : Nat} {dp : Pos} {xs : List (Int × Str)} (h : All T z) (hz : Nat.ble 28 z = true) (A : Apart [] xs) (hl : xs.length ≤ 15) :
  Go w os (10 * xs.length + 3 * xs.length + 1) (subDict (xs.map (mk dp))) T z k dp z (put (T.ins z (dictO [] 0)) z (bes2 k xs) xs.length) (z + 1) (k + 3 * xs.length) dp := by
 have hg : (T.ins z (dictO [] 0)).get z = some (dictO [] 0) := by rw [BT.get_ins _ T z (h.ins _), if_pos rfl]
 have hlt : Nat.blt z (z + 1) = true := Nat.ble_eq_true_of_le (Nat.le_refl _)
 unfold subDict
 refine Go.bind1 (Go.alloc (o := dictO [] 0) (h.ins _)) ?_
 refine Go.bind0 (a := ()) (Go.holding _ ?_) (Go.pure z)
 rw [if_pos (by rw [List.length_map]; exact hl)]
 refine Go.bind (go_evalPairs xs k) (Go.holding _ ?_)
 refine Go.bind0 (a := PUnit.unit) ?_ (Go.pure _)
 have := fun f hf => go_sets (w := w) (os := os) (dp := dp) (z := z + 1) hlt hz hg f hf xs [] 0 (k + 2 * xs.length) k A
 rw [← put_self hg, List.nil_append, Nat.zero_add] at this
 rw [show k + 3 * xs.length = k + 2 * xs.length + xs.length by lia]
 exact this _ (fun _ _ => rfl)
theorem isBe_bes2 : ∀ {k : Nat} {xs : List (Int × Str)}, ∀ y ∈ bes2 k xs, IsBe y
 | k, [], y, h => by cases h
 | k, x :: xs, y, h => by
  rcases List.mem_cons.mp h with rfl | h
  ·exact ⟨k, rfl⟩
  ·exact isBe_bes2 y h
theorem bes2_hash : ∀ {k : Nat} {xs : List (Int × Str)}, (bes2 k xs).map (·.hash) = xs.map (·.1)
 | k, [] => rfl
 | k, x :: xs => by
  show x.1 :: (bes2 (k + 2) xs).map (·.hash) = x.1 :: xs.map (·.1)
  rw [bes2_hash]
theorem bes2_len {k : Nat} {xs : List (Int × Str)} : (bes2 k xs).length = xs.length := by
 have := congrArg List.length (bes2_hash (k := k) (xs := xs)); simpa using this
theorem bes2_mem {k : Nat} {xs : List (Int × Str)} {y : DictEntry} (h : y ∈ bes2 k xs) : ∃ x ∈ xs, y.hash = x.1 := by
 have : y.hash ∈ (bes2 k xs).map (·.hash) := List.mem_map_of_mem h
 rw [bes2_hash] at this
 obtain ⟨x, hx, e⟩ := List.mem_map.mp this
 exact ⟨x, hx, e.symm⟩
theorem bes2_up {k : Nat} {xs : List (Int × Str)} (h : xs.Pairwise (·.1 < ·.1)) : (bes2 k xs).Pairwise (·.hash < ·.hash) := by
 have h1 : (xs.map (·.1)).Pairwise (· < ·) := List.pairwise_map.mpr h
 rw [← bes2_hash (k := k)] at h1
 exact List.pairwise_map.mp h1
theorem all_q (P : Params) : All (t_q P) 122 := by
 have h : (List.range 122).all (fun i => ((t_q P).get i).isSome) = true := by kernel_rfl
 intro i hi
 exact List.all_eq_true.mp h i (List.mem_range.mpr hi)
theorem q_84 (P : Params) : (t_q P).get 84 = some (dictO (bes 401 (b3.take 646)) 646) := by kernel_rfl
theorem r_is (P : Params) : put (put ((t_q P).ins 122 (dictO [] 0)) 122 (bes2 2339 (b3.drop 646)) 4) 84 (bes 401 (b3.take 646) ++ bes2 2339 (b3.drop 646)) 650 = t_r P := by kernel_rfl
theorem go_last {w : World} {os : OsState} {dp : Pos} (hs : Value → Sem Unit) :
  Go w os 82 (holding [Value.ref 84] (subDict ((b3.drop 646).map (mk dp))) >>= fun sub => ((holding [Value.ref 84, Value.ref sub] (mergeMapping 84 (Value.ref sub) false)).onRaise hs) >>= fun _ => pure (some (84 : Addr))) (t_q w.params) 122 2339 dp (some 84) (t_r w.params) 123 2351 dp := by
 have hc : (b3.drop 646).length = 4 := by rw [List.length_drop, b3_len]
 have A : Apart (bes 401 (b3.take 646)) (b3.drop 646) := by
  have := Apart.right (l := []) (xs := b3.take 646) (ys := b3.drop 646) (k := 401) (by rw [List.take_append_drop]; exact b3_apart)
  rwa [List.nil_append] at this
 have s1 := go_sub2 (w := w) (os := os) (dp := dp) (k := 2339) (all_q w.params) (by decide) A.none (by lia)
 rw [hc] at s1
 have g84 : (put ((t_q w.params).ins 122 (dictO [] 0)) 122 (bes2 2339 (b3.drop 646)) 4).get 84 = some (dictO (bes 401 (b3.take 646)) 646) := by
  rw [put_ne (by decide), BT.get_ins _ _ 122 ((all_q w.params).ins _), if_neg (by decide)]; exact q_84 _
 have gz : (put ((t_q w.params).ins 122 (dictO [] 0)) 122 (bes2 2339 (b3.drop 646)) 4).get 122 = some (dictO (bes2 2339 (b3.drop 646)) 4) := put_get (o := dictO [] 0) (by rw [BT.get_ins _ _ 122 ((all_q w.params).ins _), if_pos rfl])
 have s2 := go_mergeMapping (w := w) (os := os) (z := 123) (k := 2351) (p := dp) (d := 84) (a := 122) (ls := bes2 2339 (b3.drop 646)) (l := bes 401 (b3.take 646)) (ms := 4) (m := 646)
  (by decide) (by decide) g84 (by decide) (by decide) gz isBe_bes2 (by decide) (fun e => by have := congrArg List.length e; rw [bes_len, List.length_take, b3_len] at this; simp at this)
  (fun y hy x hx => by obtain ⟨x', hx', e⟩ := bes2_mem hx; rw [e]; exact A.low y hy x' hx') (bes2_up A.up) (by rw [bes_len, bes2_len, List.length_take, hc, b3_len]; decide)
 rw [← put_self g84, bes2_len, hc, r_is] at s2
 refine Go.bind (n := 53) (n₁ := 29) (Go.holding _ s1) ?_
 exact Go.bind0 (Go.onRaise _ (Go.holding _ s2)) (Go.pure _)
theorem pre_all (w : World) (os : OsState) (dp : Pos) (f : Option (Sem Value) × Sem Value → Option Addr × List (Sem Value × Sem Value) → Sem (ForInStep (Option Addr × List (Sem Value × Sem Value))))
  (hf : ∀ (main : Option Addr) (x : Int × Str) (run : List (Sem Value × Sem Value)), run.length < 16 → f (item dp x) (main, run) = pure (.yield (main, run ++ [mk dp x])))
  (h1 : ∀ (x : Int × Str) (run : List (Sem Value × Sem Value)), run.length = 16 → f (item dp x) (none, run) = ((subDict (run ++ [mk dp x]) >>= fun a => pure (some a)) >>= fun main => pure (.yield (main, []))))
  (hs : Value → Sem Unit)
  (hg : ∀ (x : Int × Str) (run : List (Sem Value × Sem Value)), run.length = 16 → f (item dp x) (some 84, run) =
   ((holding [Value.ref 84] (subDict (run ++ [mk dp x])) >>= fun sub => ((holding [Value.ref 84, Value.ref sub] (mergeMapping 84 (Value.ref sub) false)).onRaise hs) >>= fun _ => pure (some (84 : Addr))) >>= fun main => pure (.yield (main, [])))) :
  Pre w os (330 * 37 + 223) (forIn (b3.map (item dp)) (none, []) f) (t_p8 w.params) 84 401 dp (forIn ((b3.drop 646).map (item dp)) (some 84, []) f) (t_q w.params) 122 2339 dp := by
 have hc : (b3.take 17).length = 17 := by rw [List.length_take, b3_len]; rfl
 have A0 : Apart [] (b3.take 17) := Apart.left (ys := b3.drop 17) (by rw [List.take_append_drop]; exact b3_apart)
 have A1 : Apart (bes 401 (b3.take 17)) (b3.drop 17) := by
  have := Apart.right (l := []) (xs := b3.take 17) (ys := b3.drop 17) (k := 401) (by rw [List.take_append_drop]; exact b3_apart)
  rwa [List.nil_append] at this
 have hfl := chunks_flat 37 (b3.drop 17)
 rw [List.drop_drop, show 17 + 17 * 37 = 646 from rfl] at hfl
 have A2 : Apart (bes 401 (b3.take 17)) (chunks 37 (b3.drop 17)).flatten := Apart.left (ys := b3.drop 646) (by rw [← hfl]; exact A1)
 obtain ⟨x, hx⟩ : ∃ x, (b3.take 17).drop 16 = [x] := by
  cases h : (b3.take 17).drop 16 with
  | nil => have := congrArg List.length h; rw [List.length_drop, hc] at this; simp at this
  | cons y r =>
   cases r with
   | nil => exact ⟨y, rfl⟩
   | cons z r => have := congrArg List.length h; rw [List.length_drop, hc] at this; simp at this
 have h17 : b3.take 17 = (b3.take 17).take 16 ++ [x] := by rw [← hx, List.take_append_drop]
 have hb : b3.map (item dp) = ((b3.take 17).take 16).map (item dp) ++ (item dp x :: ((chunks 37 (b3.drop 17)).flatten.map (item dp) ++ (b3.drop 646).map (item dp))) := by
  have e : b3 = (b3.take 17).take 16 ++ ([x] ++ ((chunks 37 (b3.drop 17)).flatten ++ b3.drop 646)) := by
   rw [← List.append_assoc, ← h17, ← hfl, List.take_append_drop]
  have e2 := congrArg (List.map (item dp)) e
  rw [List.map_append, List.map_append, List.map_append] at e2
  exact e2
 have hy : ((b3.take 17).take 16).length = 16 := by rw [List.length_take, hc]; rfl
 rw [hb]
 have t1 := pre_take (w := w) (os := os) (T := t_p8 w.params) (z := 84) (k := 401) (p := dp) (main := none) (hf none) (item dp x :: ((chunks 37 (b3.drop 17)).flatten.map (item dp) ++ (b3.drop 646).map (item dp))) ((b3.take 17).take 16) [] (by rw [hy]; decide)
 have t2 : Go w os 223 (f (item dp x) (none, [] ++ ((b3.take 17).take 16).map (mk dp))) (t_p8 w.params) 84 401 dp (.yield (some 84, [])) (put ((t_p8 w.params).ins 84 (dictO [] 0)) 84 (bes 401 (b3.take 17)) 17) 85 452 dp := by
  rw [h1 x _ (by rw [List.nil_append, List.length_map, hy]), List.nil_append, show ((b3.take 17).take 16).map (mk dp) ++ [mk dp x] = (b3.take 17).map (mk dp) from by rw [h17, List.map_append, ← h17]; rfl]
  exact Go.bind0 (go_first hc A0 (all_p8 w.params) (by decide)) (Go.pure _)
 have t3 := go_groups (w := w) (os := os) (dp := dp) (f := f) (hf (some 84)) hs hg ((b3.drop 646).map (item dp)) (chunks 37 (b3.drop 17)) (put ((t_p8 w.params).ins 84 (dictO [] 0)) 84 (bes 401 (b3.take 17)) 17) 85 452 (bes 401 (b3.take 17)) 17
   (chunks_len 37 _ (by rw [List.length_drop, b3_len]; decide)) A2 (fun e => by have := congrArg List.length e; rw [bes_len, hc] at this; simp at this) (put_get (o := dictO [] 0) (by rw [BT.get_ins _ _ 84 ((all_p8 w.params).ins _), if_pos rfl])) ((all_p8 w.params).next.put) (Nat.le_refl _)
 rw [chunks_num, grp_q] at t3
 exact (t1.trans (Pre.for_cons t2)).trans t3
theorem st8_is : sts 8 1 = [.Assign [.Name (Str.ofString "b3_exceptions") ⟨56, 0, 56, 13⟩] (.Dict (kOf (st 8)) (vOf (st 8)) (dpOf (st 8))) (Stmt.pos (st 8))] := by kernel_rfl
theorem exec_dict (n : Str) (p1 p2 dp : Pos) (ks : List (Option PySem.Expr)) (vs : List PySem.Expr) (env : Env) (rest : List Stmt) :
  execs (.Assign [.Name n p1] (.Dict ks vs dp) p2 :: rest) env = ((standAt p2 >>= fun _ => (standAt dp >>= fun _ => dictDisplay ((evalEachOpt ks env).zip ((evalEach vs env).map fun v => do let x ← v; standAt dp; pure x))) >>= fun v =>
   (swappedStores [.Name n p1] (.Dict ks vs dp) env >>= fun sw => assignStores env v sw ((assignEach [.Name n p1] env).map (·.2)))) >>= fun f => match f with | .next => execs rest env | f => pure f) := by
 rw [arm_execs_cons, arm_exec_Assign]
 rfl
theorem assoc3 {α β γ : Type} (a : Sem α) (f : α → Sem β) (g : β → Sem γ) : (a >>= f) >>= g = a >>= fun x => f x >>= g := by
 simp only [Sem.bind_eq_wrap', Sem.wrap_wrap]; rfl
theorem piece_8 (w : World) : Piece 8 1 12600 t_p8 84 401 ⟨54, 0, 55, 30⟩ t_p9 123 2352 ⟨56, 0, 56, 13⟩ w := by
 intro os
 show segRunT treeTable pr w 28 ann 1 12600 (mkS (t_p8 w.params) 84 401 os) ⟨(execs (sts 8 1) env0).wrap doneF deadEnd id id, cE, ⟨54, 0, 55, 30⟩, B0⟩ = _
 rw [st8_is, exec_dict, b3_items]
 unfold dictDisplay
 simp only [assoc3]
 refine ((Go.at (w := w) (os := os) (T := t_p8 w.params) (z := 84) (k := 401) (p := ⟨54, 0, 55, 30⟩) (Stmt.pos (st 8))).then _ _ _ _ 12599).trans ?_
 refine ((Go.at (w := w) (os := os) (T := t_p8 w.params) (z := 84) (k := 401) (p := Stmt.pos (st 8)) (dpOf (st 8))).then _ _ _ _ 12598).trans ?_
 refine (Pre.bind _ (pre_all w os (dpOf (st 8)) _ ?_ ?_ ?_ ?_) _ _ _ _ 165).trans ?_
 ·intro main x run hr
  have : (run ++ [mk (dpOf (st 8)) x]).length ≠ 17 := by simp; lia
  unfold item
  dsimp only
  rw [if_neg (by simpa using this)]
 ·intro x run hr
  have e17 : (run ++ [mk (dpOf (st 8)) x]).length = 17 := by simp [hr]
  unfold item
  dsimp only
  rw [if_pos (by simpa using e17), if_neg (by simp)]
 ·exact fun x => do
   let _ ← holding [Value.ref 84, x] (runValue (Code.builtin "proto.let_go" { }))
   pure ()
 ·intro x run hr
  have e17 : (run ++ [mk (dpOf (st 8)) x]).length = 17 := by simp [hr]
  unfold item
  dsimp only
  rw [if_pos (by simpa using e17), if_neg (by simp)]
 ·have hc : (b3.drop 646).length = 4 := by rw [List.length_drop, b3_len]
  have e0 : (b3.drop 646).map (item (dpOf (st 8))) = (b3.drop 646).map (item (dpOf (st 8))) ++ [] := (List.append_nil _).symm
  rw [e0]
  refine (Pre.bind _ (pre_take (w := w) (os := os) (T := t_q w.params) (z := 122) (k := 2339) (p := dpOf (st 8)) (main := some 84) ?_ [] (b3.drop 646) [] (by rw [hc]; decide)) _ _ _ _ 165).trans ?_
  ·intro x run hr
   have : (run ++ [mk (dpOf (st 8)) x]).length ≠ 17 := by simp; lia
   unfold item
   dsimp only
   rw [if_neg (by simpa using this)]
  ·rw [List.nil_append]
   refine ((Go.then (Go.pure (some 84, (b3.drop 646).map (mk (dpOf (st 8)))))) _ _ _ _ 165).trans ?_
   dsimp only
   rw [if_neg (fun h => by rw [List.isEmpty_iff] at h; have := congrArg List.length h; rw [List.length_map, hc] at this; simp at this)]
   refine ((Go.then (go_last _)) _ _ _ _ 83).trans ?_
   dsimp only
   kernel_rfl
theorem piece_0 (w : World) : Piece 0 6 170 t_b 32 282 z0 t_p6 66 334 ⟨52, 0, 52, 8⟩ w := by
 intro os
 rw [PySem.W.Fast.te10110043849684766642, PySem.W.Fast.te14364793385576792824]
 kernel_rfl
theorem piece_6a (w : World) : Piece 6 1 999 t_p6 66 334 ⟨52, 0, 52, 8⟩ t_p7 77 394 ⟨53, 0, 53, 6⟩ ((w.withFollow "special-get-raises" false).withFollow "set-order" false) := by
 intro os
 rw [PySem.W.Fast.te10110043849684766642, PySem.W.Fast.te14364793385576792824]
 kernel_rfl
theorem piece_6b (w : World) : Piece 6 1 999 t_p6 66 334 ⟨52, 0, 52, 8⟩ t_p7 77 394 ⟨53, 0, 53, 6⟩ ((w.withFollow "special-get-raises" true).withFollow "set-order" false) := by
 intro os
 rw [PySem.W.Fast.te10110043849684766642, PySem.W.Fast.te14364793385576792824]
 kernel_rfl
theorem piece_6c (w : World) : Piece 6 1 999 t_p6 66 334 ⟨52, 0, 52, 8⟩ t_p7 77 394 ⟨53, 0, 53, 6⟩ ((w.withFollow "special-get-raises" false).withFollow "set-order" true) := by
 intro os
 rw [PySem.W.Fast.te10110043849684766642, PySem.W.Fast.te14364793385576792824]
 kernel_rfl
theorem piece_6d (w : World) : Piece 6 1 999 t_p6 66 334 ⟨52, 0, 52, 8⟩ t_p7 77 394 ⟨53, 0, 53, 6⟩ ((w.withFollow "special-get-raises" true).withFollow "set-order" true) := by
 intro os
 rw [PySem.W.Fast.te10110043849684766642, PySem.W.Fast.te14364793385576792824]
 kernel_rfl
theorem piece_6 (w : World) : Piece 6 1 999 t_p6 66 334 ⟨52, 0, 52, 8⟩ t_p7 77 394 ⟨53, 0, 53, 6⟩ w :=
 byRow2 "set-order" (P := Piece 6 1 999 t_p6 66 334 ⟨52, 0, 52, 8⟩ t_p7 77 394 ⟨53, 0, 53, 6⟩)
  (fun w => byRow2 "special-get-raises" (P := fun w => Piece 6 1 999 t_p6 66 334 ⟨52, 0, 52, 8⟩ t_p7 77 394 ⟨53, 0, 53, 6⟩ (w.withFollow "set-order" false)) piece_6a piece_6b w)
  (fun w => byRow2 "special-get-raises" (P := fun w => Piece 6 1 999 t_p6 66 334 ⟨52, 0, 52, 8⟩ t_p7 77 394 ⟨53, 0, 53, 6⟩ (w.withFollow "set-order" true)) piece_6c piece_6d w) w
theorem piece_7 (w : World) : Piece 7 1 30 t_p7 77 394 ⟨53, 0, 53, 6⟩ t_p8 84 401 ⟨54, 0, 55, 30⟩ w := by
 intro os
 rw [PySem.W.Fast.te10110043849684766642, PySem.W.Fast.te14364793385576792824]
 kernel_rfl
theorem piece_9 (w : World) : Piece 9 52 490 t_p9 123 2352 ⟨56, 0, 56, 13⟩ t_p61 130 2462 ⟨112, 0, 112, 9⟩ w := by
 intro os
 rw [PySem.W.Fast.te10110043849684766642, PySem.W.Fast.te14364793385576792824]
 kernel_rfl
theorem piece_61a (w : World) : Piece 61 1 979 t_p61 130 2462 ⟨112, 0, 112, 9⟩ t_p62 133 2559 ⟨113, 0, 113, 17⟩ (w.withFollow "special-get-raises" false) := by
 intro os
 rw [PySem.W.Fast.te10110043849684766642, PySem.W.Fast.te14364793385576792824]
 kernel_rfl
theorem piece_61b (w : World) : Piece 61 1 979 t_p61 130 2462 ⟨112, 0, 112, 9⟩ t_p62 133 2559 ⟨113, 0, 113, 17⟩ (w.withFollow "special-get-raises" true) := by
 intro os
 rw [PySem.W.Fast.te10110043849684766642, PySem.W.Fast.te14364793385576792824]
 kernel_rfl
theorem piece_61 (w : World) : Piece 61 1 979 t_p61 130 2462 ⟨112, 0, 112, 9⟩ t_p62 133 2559 ⟨113, 0, 113, 17⟩ w := byRow2 "special-get-raises" piece_61a piece_61b w
theorem piece_62 (w : World) : Piece 62 8 353 t_p62 133 2559 ⟨113, 0, 113, 17⟩ t_p70 177 2686 ⟨124, 0, 132, 20⟩ w := by
 intro os
 rw [PySem.W.Fast.te10110043849684766642, PySem.W.Fast.te14364793385576792824]
 kernel_rfl
theorem piece_70 (w : World) : Piece 70 1 727 t_p70 177 2686 ⟨124, 0, 132, 20⟩ t_p71 302 2843 ⟨133, 0, 214, 93⟩ w := by
 intro os
 rw [PySem.W.Fast.te10110043849684766642, PySem.W.Fast.te14364793385576792824]
 kernel_rfl
theorem piece_71 (w : World) : Piece 71 15 423 t_p71 302 2843 ⟨133, 0, 214, 93⟩ t_p86 386 2964 ⟨357, 0, 380, 60⟩ w := by
 intro os
 rw [PySem.W.Fast.te10110043849684766642, PySem.W.Fast.te14364793385576792824]
 kernel_rfl
noncomputable def He (P : Params) : Heap := absHeap (t_e P) 28 {}
noncomputable def H0 (P : Params) : Heap := absHeap (t_z P) 28 {}
noncomputable def dz : Drawn := ⟨0, 0, 0, 0⟩
theorem open_run (w : World) : importEnds treeTable (opening pr) w 799 (start (opening pr)).1 (start (opening pr)).2 = some ⟨He w.params, ⟨[]⟩, dz, 276, (start (opening pr)).1.os⟩ := by
 rw [PySem.W.Fast.te10274390034422433532, PySem.W.Fast.te14364793385576792824]
 kernel_rfl
theorem open_fence (w : World) : (fun os => (fenceModules? pr ⟨He w.params, ⟨[]⟩, dz, 276, os⟩).map (fun s => (s.heap, s.gens, s.drawn, s.toks))) = fun _ => some (H0 w.params, ⟨[]⟩, dz, 276) := by
 kernel_rfl
theorem open_all : ∀ w : World, (fencedOpening treeTable pr w 100000).map (fun s => (s.heap, s.gens, s.drawn, s.toks)) = some (H0 w.params, ⟨[]⟩, dz, 276) :=
 open_cut open_run (by decide) open_fence
noncomputable def H1 (P : Params) : Heap := absHeap (t_p86 P) 386 {}
noncomputable def Says (w : World) (h : Heap) : Prop := ∀ b o, (H1 w.params).get? b = some o → h.get? b = some o
theorem pre_go (w : World) (os : OsState) : topGo treeTable pr w 28 ann 12 ⟨H0 w.params, ⟨[]⟩, dz, 276, os⟩ (topStub pr) = some (⟨absHeap (t_b w.params) 32 {}, ⟨[]⟩, dz, 282, os⟩, ⟨denote treeTable cE, cE, z0, B0⟩) := by
 rw [PySem.W.Fast.te15667345088766844465, PySem.W.Fast.te14364793385576792824, PySem.W.Fast.te11892475500146522536]
 kernel_rfl
theorem block_go (w : World) (os : OsState) : segRun treeTable pr w 28 ann 1 1 ⟨absHeap (t_b w.params) 32 {}, ⟨[]⟩, dz, 282, os⟩ (blockOf body env0 cE z0 B0) = some (.next, ⟨absHeap (t_b w.params) 32 {}, ⟨[]⟩, dz, 282, os⟩, cE, z0) := by
 kernel_rfl
theorem fin_go (w : World) (os : OsState) (p : Pos) : topRun treeTable pr w 28 ann 2 ⟨H1 w.params, ⟨[]⟩, dz, 2964, os⟩ ⟨doneF .next, cE, p, B0⟩ = some ⟨H1 w.params, ⟨[]⟩, dz, 2964, os⟩ := by
 kernel_rfl
theorem sts_all : body = sts 0 6 ++ (sts 6 1 ++ (sts 7 1 ++ (sts 8 1 ++ (sts 9 52 ++ (sts 61 1 ++ (sts 62 8 ++ (sts 70 1 ++ (sts 71 15 ++ [])))))))) := by
 kernel_rfl
theorem app {a b n N : Nat} {t t' : Params → BT} {m k m' k' : Nat} {p p' : Pos} {w : World} {os : OsState} {rest : List Stmt} {r : Shared} (h : Piece a b n t m k p t' m' k' p' w)
  (g : topRun treeTable pr w 28 ann N (stT t' m' k' w os).abs (restOf rest env0 cE p' B0) = some r) : topRun treeTable pr w 28 ann (n + N) (stT t m k w os).abs (restOf (sts a b ++ rest) env0 cE p B0) = some r :=
 piece_app (segRun_of (h os)) g
theorem top_run (w : World) (os : OsState) : topRun treeTable pr w 28 ann (12 + (1 + (170 + (999 + (30 + (12600 + (490 + (979 + (353 + (727 + (423 + 2))))))))))) ⟨H0 w.params, ⟨[]⟩, dz, 276, os⟩ (topStub pr) = some ⟨H1 w.params, ⟨[]⟩, dz, 2964, os⟩ := by
 refine go_top (pre_go w os) ?_
 refine piece_block (block_go w os) ?_
 rw [sts_all]
 refine app (piece_0 w) (app (piece_6 w) (app (piece_7 w) (app (piece_8 w) (app (piece_9 w) (app (piece_61 w) (app (piece_62 w) (app (piece_70 w) (app (piece_71 w) ?_))))))))
 exact piece_nil (fin_go w os _)
theorem size_ok (w : World) : ((H0 w.params).isNs mainGlobals && (⟨[]⟩ : Array GenState).size == 0, (H0 w.params).objs.size, (H0 w.params).nsMap mainGlobals "__annotations__") = (true, 28, ann) := by
 kernel_rfl
theorem looks1 (w : World) : (fun os => ((staticsOk (importedModules pr.main.body) (H0 w.params) (H1 w.params) && namesBound pr (H1 w.params) && gensDone ⟨H1 w.params, ⟨[]⟩, dz, 2964, os⟩ && laidKept (H0 w.params) (H1 w.params)) : Bool)) = fun _ => true := by
 kernel_rfl
noncomputable def q' : Program := { pr with main := { pr.main with body := (pr.main.body.take 1) ++ [st 85] } }
noncomputable def loose' : List Str := pr.boundNames.filter fun n => n != (Str.ofString "law") && n != (Str.ofString "_sre")
theorem looks2 (w : World) : (fun os => openSeen q' loose' (importedModules pr.main.body) (fun _ => true) true ⟨H1 w.params, ⟨[]⟩, dz, 2964, os⟩) = fun _ => openGood q' loose' := by
 rw [PySem.W.Fast.te4187177175401517315]
 kernel_rfl
theorem left : LeftO pr q' loose' (fun _ => true) (fun s => s.heap) (fun w => H1 w.params) 100000 :=
 LeftO.of_pieces open_all size_ok top_run (by decide) fun w => by
  funext os
  have h1 := congrFun (looks1 w) os
  have h2 := congrFun (looks2 w) os
  exact Prod.ext h1 (Prod.ext h2 rfl)
theorem bc {p : Prop} (h : ¬ p → False) : p := Classical.byContradiction h
theorem no {α : Type} {P : Prop} {x : Option α} {o : α} (e : x = none) (e' : x = some o) : P := by rw [e] at e'; cases e'
theorem ne_oo {α β : Type} {f : α → Option β} {a b : α} {o : β} (e : f a = none) (e' : f b = some o) : a ≠ b := by rintro rfl; exact no e e'
inductive D where
 | none
 | bool (b : Bool)
 | int (i : Int)
 | str (x : Str)
 | tup (l : List D)
 | lst (l : List D)
 | hdr (l : List D)
 | lam (one two : List D)
 | opq (o : Obj)
 deriving Inhabited
noncomputable abbrev TF : Addr := 345
noncomputable def HdrDict (oi : Obj) (b : Addr) : Prop := oi.cls = .type "dict" ∧ oi.dict = none ∧ ∃ es n, oi.data = .dict es n ∧ StrKeys es ∧ UniqKeys es ∧ ∀ name, nsFind es name = if name = (Str.ofString "_headers") then some (.ref b) else none
noncomputable def HdrIs (h : Heap) (a i b : Addr) : Prop := ∃ o oi, h.get? a = some o ∧ o.cls = .ref 297 ∧ o.dict = some i ∧ o.data = .plain ∧ h.get? i = some oi ∧ HdrDict oi b
noncomputable def lamE : PySem.Expr := match (bo (st 78)).getD 1 noStmt with
 | .Return (some (.Subscript _ (.Slice _ (some (.Call _ _ (q :: _) _)) _ _) _)) _ => q.value
 | _ => .Constant .none 0 ⟨0, 0, 0, 0⟩
noncomputable def lamArgs : Arguments := match lamE with
 | .Lambda a _ _ _ => a
 | _ => noArgs
noncomputable def lamBody : PySem.Expr := match lamE with
 | .Lambda _ b _ _ => b
 | _ => .Constant .none 0 ⟨0, 0, 0, 0⟩
noncomputable def lamScope : Scope := match lamE with
 | .Lambda _ _ s _ => s
 | _ => noScope
noncomputable def lamPos : Pos := match lamE with
 | .Lambda _ _ _ p => p
 | _ => ⟨0, 0, 0, 0⟩
noncomputable def lamPre : Str := Str.ofString "_law_front.<locals>."
noncomputable def lamQual : Str := Str.ofString "_law_front.<locals>.<lambda>"
noncomputable def isFr (sc : Scope) : Bool := sc.names.lookup (Str.ofString "one") == some .cell
noncomputable def IsCode (o : Obj) : Prop := ∃ ws t, o.data = .fields ws ∧ ws[1]? = some (.str lamQual t)
noncomputable def CodeOK (h : Heap) (cc : Addr) : Prop := cc ≠ TF ∧ ∃ o, h.get? cc = some o ∧ IsCode o
noncomputable def TabOK (h : Heap) (N : Addr → Prop) : Prop := ∃ vs, h.get? TF = some (tabObj vs) ∧ TriplesOk vs.toList ∧ ∀ cv, codeAmong lamPos vs.toList = some cv → ∃ cc, cv = .ref cc ∧ N cc ∧ CodeOK h cc
theorem TabOK.map {h h' : Heap} {N N' : Addr → Prop} (x : TabOK h N) (hT : ∀ o, h.get? TF = some o → h'.get? TF = some o) (hk : ∀ a o, a ≠ TF → IsCode o → N a → h.get? a = some o → h'.get? a = some o ∧ N' a) : TabOK h' N' := by
 obtain ⟨vs, e, t, f⟩ := x
 refine ⟨vs, hT _ e, t, fun cv q => ?_⟩
 obtain ⟨cc, r, n, ne, o, e1, e2⟩ := f cv q
 exact ⟨cc, r, (hk cc o ne e2 n e1).2, ne, o, (hk cc o ne e2 n e1).1, e2⟩
theorem TabOK.weak {h : Heap} {N N' : Addr → Prop} (x : TabOK h N) (hn : ∀ a, a ≠ TF → N a → N' a) : TabOK h N' := x.map (fun _ e => e) fun a o ne _ n e => ⟨e, hn a ne n⟩
theorem TabOK.here {h : Heap} {N : Addr → Prop} (x : TabOK h N) : TabOK h (fun a => N a ∧ ∃ o, h.get? a = some o ∧ IsCode o) := x.map (fun _ e => e) fun a o ne d n e => ⟨e, n, o, e, d⟩
theorem TabOK.both {h : Heap} {N N' : Addr → Prop} (x : TabOK h N) (y : TabOK h N') : TabOK h (fun a => N a ∧ N' a) := by
 obtain ⟨vs, e, t, f⟩ := x
 obtain ⟨vs', e', t', f'⟩ := y
 rw [e] at e'; cases e'
 refine ⟨vs, e, t, fun cv q => ?_⟩
 obtain ⟨cc, r, n, k⟩ := f cv q
 obtain ⟨cc', r', n', _⟩ := f' cv q
 subst r; cases r'
 exact ⟨cc, rfl, ⟨n, n'⟩, k⟩
theorem noFields {o : Obj} (h : ∀ vs, o.data ≠ .fields vs) : ¬ IsCode o := fun ⟨ws, _, e, _⟩ => h ws e
noncomputable def LamIs (h : Heap) (g c₁ c₂ cc : Addr) : Prop := ∃ o fd, h.get? g = some o ∧ o.data = .func fd ∧ fd.params = lamArgs ∧ fd.body = .expr lamBody ∧ fd.scope = lamScope ∧ fd.qualname = lamQual ∧ fd.closure = [(Str.ofString "two", c₂), (Str.ofString "one", c₁)] ∧ c₁ ≠ c₂ ∧ fd.globals = mainGlobals ∧ fd.builtins = builtinsNs ∧ fd.defaults = .none ∧ fd.kwdefaults = .none ∧ fd.code = .ref cc
mutual
inductive At (h : Heap) (N : Addr → Prop) : Value → D → Prop
 | none : At h N .none .none
 | bool (b : Bool) : At h N (.bool b) (.bool b)
 | int (i : Int) (t : Tok) : At h N (.int i t) (.int i)
 | str (x : Str) (t : Tok) : At h N (.str x t) (.str x)
 | tup {a : Addr} {vs : List Value} {ds : List D} : N a → h.IsTuple a vs.toArray → AtL h N vs ds → At h N (.ref a) (.tup ds)
 | lst {a : Addr} {vs : List Value} {ds : List D} : N a → h.IsList a vs.toArray → AtL h N vs ds → At h N (.ref a) (.lst ds)
 | hdr {a i b : Addr} {vs : List Value} {ds : List D} : N a → N i → N b → HdrIs h a i b → h.IsList b vs.toArray → AtL h N vs ds → At h N (.ref a) (.hdr ds)
 | lam {g c₁ c₂ cc : Addr} {l₁ l₂ : Value} {one two : List D} : N g → N c₁ → N c₂ → N cc → LamIs h g c₁ c₂ cc → CodeOK h cc → h.IsCell c₁ (some l₁) → h.IsCell c₂ (some l₂) → At h N l₁ (.lst one) → At h N l₂ (.lst two) → At h N (.ref g) (.lam one two)
 | opq {a : Addr} {o : Obj} : N a → h.get? a = some o → At h N (.ref a) (.opq o)
inductive AtL (h : Heap) (N : Addr → Prop) : List Value → List D → Prop
 | nil : AtL h N [] []
 | cons {v : Value} {vs : List Value} {d : D} {ds : List D} : At h N v d → AtL h N vs ds → AtL h N (v :: vs) (d :: ds)
end
section
variable {h : Heap} {N : Addr → Prop} {v : Value} {P : Value → Prop} {ds : List D}
noncomputable def Sh (h : Heap) (N : Addr → Prop) (v : Value) : D → Prop
 | .none => v = .none
 | .bool b => v = .bool b
 | .int i => ∃ t, v = .int i t
 | .str x => ∃ t, v = .str x t
 | .tup ds => ∃ a vs, v = .ref a ∧ N a ∧ h.IsTuple a vs.toArray ∧ AtL h N vs ds
 | .lst ds => ∃ a vs, v = .ref a ∧ N a ∧ h.IsList a vs.toArray ∧ AtL h N vs ds
 | .hdr ds => ∃ a i b vs, v = .ref a ∧ N a ∧ N i ∧ N b ∧ HdrIs h a i b ∧ h.IsList b vs.toArray ∧ AtL h N vs ds
 | .lam one two => ∃ g c₁ c₂ cc l₁ l₂, v = .ref g ∧ N g ∧ N c₁ ∧ N c₂ ∧ N cc ∧ LamIs h g c₁ c₂ cc ∧ CodeOK h cc ∧ h.IsCell c₁ (some l₁) ∧ h.IsCell c₂ (some l₂) ∧ At h N l₁ (.lst one) ∧ At h N l₂ (.lst two)
 | .opq o => ∃ a, v = .ref a ∧ N a ∧ h.get? a = some o
theorem At.inv {d : D} (x : At h N v d) : Sh h N v d := At.rec (motive_1 := fun v d _ => Sh h N v d) (motive_2 := fun _ _ _ => True) rfl (fun _ => rfl) (fun _ t => ⟨t, rfl⟩) (fun _ t => ⟨t, rfl⟩) (fun n i r _ => ⟨_, _, rfl, n, i, r⟩) (fun n i r _ => ⟨_, _, rfl, n, i, r⟩) (fun n n' n'' e i r _ => ⟨_, _, _, _, rfl, n, n', n'', e, i, r⟩) (fun n n₁ n₂ n₃ u c e f y z _ _ => ⟨_, _, _, _, _, _, rfl, n, n₁, n₂, n₃, u, c, e, f, y, z⟩) (fun n e => ⟨_, rfl, n, e⟩) trivial (fun _ _ _ _ => trivial) x
@[elab_as_elim] theorem At.cN (a : At h N v .none) (q : P .none) : P v := a.inv.symm ▸ q
@[elab_as_elim] theorem At.cB {b : Bool} (a : At h N v (.bool b)) (q : P (.bool b)) : P v := a.inv.symm ▸ q
@[elab_as_elim] theorem At.cI {i : Int} (a : At h N v (.int i)) (q : ∀ t, P (.int i t)) : P v := a.inv.elim fun t e => e.symm ▸ q t
@[elab_as_elim] theorem At.cS {x : Str} (a : At h N v (.str x)) (q : ∀ t, P (.str x t)) : P v := a.inv.elim fun t e => e.symm ▸ q t
@[elab_as_elim] theorem At.cT (a : At h N v (.tup ds)) (q : ∀ a vs, N a → h.IsTuple a vs.toArray → AtL h N vs ds → P (.ref a)) : P v := by
 obtain ⟨_, _, rfl, n, i, r⟩ := a.inv
 exact q _ _ n i r
@[elab_as_elim] theorem At.cL (a : At h N v (.lst ds)) (q : ∀ a vs, N a → h.IsList a vs.toArray → AtL h N vs ds → P (.ref a)) : P v := by
 obtain ⟨_, _, rfl, n, i, r⟩ := a.inv
 exact q _ _ n i r
@[elab_as_elim] theorem At.cH (a : At h N v (.hdr ds)) (q : ∀ a i b vs, N a → N i → N b → HdrIs h a i b → h.IsList b vs.toArray → AtL h N vs ds → P (.ref a)) : P v := by
 obtain ⟨_, _, _, _, rfl, n, n', n'', e, i, r⟩ := a.inv
 exact q _ _ _ _ n n' n'' e i r
theorem At.cH1 {a : Addr} {P : Prop} (x : At h N (.ref a) (.hdr ds)) (q : ∀ i b vs, N a → N i → N b → HdrIs h a i b → h.IsList b vs.toArray → AtL h N vs ds → P) : P := by
 obtain ⟨_, _, _, _, w, n, n', n'', e, i, r⟩ := x.inv
 cases w
 exact q _ _ _ n n' n'' e i r
@[elab_as_elim] theorem At.cO {o : Obj} (a : At h N v (.opq o)) (q : ∀ a, N a → h.get? a = some o → P (.ref a)) : P v := by
 obtain ⟨_, rfl, n, e⟩ := a.inv
 exact q _ n e
@[elab_as_elim] theorem At.cF {one two : List D} (a : At h N v (.lam one two)) (q : ∀ g c₁ c₂ cc l₁ l₂, N g → N c₁ → N c₂ → N cc → LamIs h g c₁ c₂ cc → CodeOK h cc → h.IsCell c₁ (some l₁) → h.IsCell c₂ (some l₂) → At h N l₁ (.lst one) → At h N l₂ (.lst two) → P (.ref g)) : P v := by
 obtain ⟨_, _, _, _, _, _, rfl, n, n₁, n₂, n₃, u, c, e, f, y, z⟩ := a.inv
 exact q _ _ _ _ _ _ n n₁ n₂ n₃ u c e f y z
end
structure KpX (X : Addr → Prop) (h h' : Heap) : Prop where
 get : ∀ b o, b ≠ TF → ¬ X b → h.get? b = some o → h'.get? b = some o
 tab : ∀ o vs, h.get? TF = some o → o.data = .fields vs → ∃ more, h'.get? TF = some { o with data := .fields (vs ++ more) }
noncomputable def nX : Addr → Prop := fun _ => False
theorem KpX.refl (X : Addr → Prop) (h : Heap) : KpX X h h := ⟨fun _ _ _ _ e => e, fun o vs e d => ⟨#[], by
 rw [Array.append_empty, e]; cases o; simp only at d; rw [d]⟩⟩
theorem KpX.trans {X : Addr → Prop} {h₁ h₂ h₃ : Heap} (x : KpX X h₁ h₂) (y : KpX X h₂ h₃) : KpX X h₁ h₃ :=
 ⟨fun b o n z e => y.get b o n z (x.get b o n z e), fun o vs e d => by
  obtain ⟨m, e₁⟩ := x.tab o vs e d
  obtain ⟨m', e₂⟩ := y.tab _ _ e₁ rfl
  exact ⟨m ++ m', by rw [e₂, Array.append_assoc]⟩⟩
theorem KpX.mono {X Y : Addr → Prop} {h h' : Heap} (x : KpX X h h') (hs : ∀ b, (∃ o, h.get? b = some o) → X b → Y b) : KpX Y h h' := ⟨fun b o n z e => x.get b o n (fun q => z (hs b ⟨o, e⟩ q)) e, x.tab⟩
structure Kp (h h' : Heap) : Prop extends KpX nX h h' where
 tk : ∀ N, TabOK h N → TabOK h' (fun a => N a ∨ h.get? a = none)
theorem Kp.refl (h : Heap) : Kp h h := ⟨.refl _ h, fun N x => x.weak fun a _ n => .inl n⟩
theorem Kp.trans {h₁ h₂ h₃ : Heap} (x : Kp h₁ h₂) (y : Kp h₂ h₃) : Kp h₁ h₃ := ⟨x.toKpX.trans y.toKpX, fun N z => (y.tk _ (x.tk N z)).weak fun a ne n => by
 rcases n with n | n
 ·exact n
 ·right
  cases e : h₁.get? a with
  | none => rfl
  | some o => rw [x.get a o ne (fun z => z) e] at n; cases n⟩
theorem Kp.of {h h' : Heap} (x : ∀ b o, h.get? b = some o → h'.get? b = some o) : Kp h h' := ⟨⟨fun b o _ _ e => x b o e, fun o vs e d => ⟨#[], by
 rw [Array.append_empty, x _ _ e]; cases o; simp only at d; rw [d]⟩⟩, fun N z => z.map (x TF) fun a o _ _ n e => ⟨x a o e, .inl n⟩⟩
theorem Kp.to {X : Addr → Prop} {h h' : Heap} (x : Kp h h') : KpX X h h' := x.toKpX.mono fun _ _ q => q.elim
theorem KpX.sameBut {X : Addr → Prop} {a : Addr} {h h' : Heap} (s : Heap.SameBut a h h') (ha : X a) (hT : a ≠ TF) : KpX X h h' :=
 ⟨fun b o _ z e => (s.2 b (by rintro rfl; exact z ha)).trans e, fun o vs e d => ⟨#[], by
  rw [Array.append_empty, s.2 TF (Ne.symm hT), e]; cases o; simp only at d; rw [d]⟩⟩
theorem HdrIs.map {h h' : Heap} {a i b : Addr} (x : HdrIs h a i b) (ka : ∀ o, h.get? a = some o → h'.get? a = some o) (ki : ∀ o, h.get? i = some o → h'.get? i = some o) : HdrIs h' a i b := by
 obtain ⟨o, oi, ho, hc, hi, hp, hoi, hd⟩ := x
 exact ⟨o, oi, ka _ ho, hc, hi, hp, ki _ hoi, hd⟩
theorem tup_up {h h' : Heap} {N N' : Addr → Prop} {a : Addr} {vs : Array Value} (hk : ∀ a o, N a → h.get? a = some o → h'.get? a = some o ∧ N' a) (n : N a) (i : h.IsTuple a vs) : N' a ∧ h'.IsTuple a vs := by
 obtain ⟨o, ho, r⟩ := i
 exact ⟨(hk _ _ n ho).2, o, (hk _ _ n ho).1, r⟩
theorem lst_up {h h' : Heap} {N N' : Addr → Prop} {a : Addr} {vs : Array Value} (hk : ∀ a o, N a → h.get? a = some o → h'.get? a = some o ∧ N' a) (n : N a) (i : h.IsList a vs) : N' a ∧ h'.IsList a vs := by
 obtain ⟨o, ho, r⟩ := i
 exact ⟨(hk _ _ n ho).2, o, (hk _ _ n ho).1, r⟩
theorem cell_up {h h' : Heap} {N N' : Addr → Prop} {a : Addr} {v : Option Value} (hk : ∀ a o, N a → h.get? a = some o → h'.get? a = some o ∧ N' a) (n : N a) (i : h.IsCell a v) : N' a ∧ h'.IsCell a v := by
 obtain ⟨o, ho, r⟩ := i
 exact ⟨(hk _ _ n ho).2, o, (hk _ _ n ho).1, r⟩
theorem hdr_up {h h' : Heap} {N N' : Addr → Prop} {a i b : Addr} (hk : ∀ a o, N a → h.get? a = some o → h'.get? a = some o ∧ N' a) (n : N a) (n' : N i) (x : HdrIs h a i b) : N' a ∧ N' i ∧ HdrIs h' a i b := by
 obtain ⟨o, oi, ho, hc, hi, hp, hoi, hd⟩ := x
 exact ⟨(hk _ _ n ho).2, (hk _ _ n' hoi).2, o, oi, (hk _ _ n ho).1, hc, hi, hp, (hk _ _ n' hoi).1, hd⟩
theorem lam_up {h h' : Heap} {N N' : Addr → Prop} {g c₁ c₂ cc : Addr} (hk : ∀ a o, N a → h.get? a = some o → h'.get? a = some o ∧ N' a) (n : N g) (x : LamIs h g c₁ c₂ cc) : N' g ∧ LamIs h' g c₁ c₂ cc := by
 obtain ⟨o, fd, ho, r⟩ := x
 exact ⟨(hk _ _ n ho).2, o, fd, (hk _ _ n ho).1, r⟩
theorem code_up {h h' : Heap} {N N' : Addr → Prop} {a : Addr} (hk : ∀ a o, N a → h.get? a = some o → h'.get? a = some o ∧ N' a) (n : N a) (x : CodeOK h a) : N' a ∧ CodeOK h' a := by
 obtain ⟨ne, o, ho, r⟩ := x
 exact ⟨(hk _ _ n ho).2, ne, o, (hk _ _ n ho).1, r⟩
theorem At.map {h h' : Heap} {N N' : Addr → Prop} (hk : ∀ a o, N a → h.get? a = some o → h'.get? a = some o ∧ N' a) {v : Value} {d : D} (x : At h N v d) : At h' N' v d :=
 At.rec (motive_1 := fun v d _ => At h' N' v d) (motive_2 := fun vs ds _ => AtL h' N' vs ds) .none .bool .int .str (fun n i _ y => .tup (tup_up hk n i).1 (tup_up hk n i).2 y) (fun n i _ y => .lst (lst_up hk n i).1 (lst_up hk n i).2 y)
  (fun n n' n'' x i _ y => .hdr (hdr_up hk n n' x).1 (hdr_up hk n n' x).2.1 (lst_up hk n'' i).1 (hdr_up hk n n' x).2.2 (lst_up hk n'' i).2 y)
  (fun n n₁ n₂ n₃ x c i₁ i₂ _ _ y y' => .lam (lam_up hk n x).1 (cell_up hk n₁ i₁).1 (cell_up hk n₂ i₂).1 (code_up hk n₃ c).1 (lam_up hk n x).2 (code_up hk n₃ c).2 (cell_up hk n₁ i₁).2 (cell_up hk n₂ i₂).2 y y')
  (fun n e => .opq (hk _ _ n e).2 (hk _ _ n e).1) .nil (fun _ _ y z => .cons y z) x
theorem AtL.map {h h' : Heap} {N N' : Addr → Prop} (hk : ∀ a o, N a → h.get? a = some o → h'.get? a = some o ∧ N' a) {vs : List Value} {ds : List D} (x : AtL h N vs ds) : AtL h' N' vs ds := by
 induction vs generalizing ds with
 | nil => cases x; exact .nil
 | cons v vs ih => cases x with | cons a r => exact .cons (a.map hk) (ih r)
section
variable {h h' : Heap} {N N' : Addr → Prop} {v : Value} {d : D} {vs : List Value} {ds : List D}
theorem At.weak (x : At h N v d) (hn : ∀ a, N a → N' a) : At h N' v d := x.map fun a o n e => ⟨e, hn a n⟩
theorem AtL.weak (x : AtL h N vs ds) (hn : ∀ a, N a → N' a) : AtL h N' vs ds := x.map fun a o n e => ⟨e, hn a n⟩
theorem At.kp {X : Addr → Prop} (x : At h N v d) (k : KpX X h h') (hn : ∀ a, N a → a ≠ TF ∧ ¬ X a) : At h' N v d := x.map fun a o n e => ⟨k.get a o (hn a n).1 (hn a n).2 e, n⟩
theorem AtL.kp {X : Addr → Prop} (x : AtL h N vs ds) (k : KpX X h h') (hn : ∀ a, N a → a ≠ TF ∧ ¬ X a) : AtL h' N vs ds := x.map fun a o n e => ⟨k.get a o (hn a n).1 (hn a n).2 e, n⟩
theorem At.here (x : At h N v d) : At h (fun a => N a ∧ ∃ o, h.get? a = some o) v d := x.map fun a o n e => ⟨e, n, o, e⟩
theorem AtL.here (x : AtL h N vs ds) : AtL h (fun a => N a ∧ ∃ o, h.get? a = some o) vs ds := x.map fun a o n e => ⟨e, n, o, e⟩
theorem AtL.length (x : AtL h N vs ds) : vs.length = ds.length := by
 induction vs generalizing ds with
 | nil => cases x; rfl
 | cons v vs ih => cases x with | cons a r => rw [List.length_cons, List.length_cons, ih r]
theorem AtL.append {vs' : List Value} {ds' : List D} (x : AtL h N vs ds) (y : AtL h N vs' ds') : AtL h N (vs ++ vs') (ds ++ ds') := by
 induction vs generalizing ds with
 | nil => cases x; exact y
 | cons v vs ih => cases x with | cons a r => exact .cons a (ih r)
theorem AtL.get (x : AtL h N vs ds) {i : Nat} {d : D} (hd : ds[i]? = some d) : ∃ v, vs[i]? = some v ∧ At h N v d := by
 induction vs generalizing ds i with
 | nil => cases x; simp at hd
 | cons v vs ih =>
  cases x with
  | cons a r =>
   cases i with
   | zero => simp at hd; subst hd; exact ⟨v, rfl, a⟩
   | succ i => simp at hd; simpa using ih r hd
theorem AtL.get' (x : AtL h N vs ds) {i : Nat} {v : Value} (hv : vs[i]? = some v) : ∃ d, ds[i]? = some d ∧ At h N v d := by
 induction vs generalizing ds i with
 | nil => simp at hv
 | cons u vs ih =>
  cases x with
  | cons a r =>
   cases i with
   | zero => simp at hv; subst hv; exact ⟨_, rfl, a⟩
   | succ i => simp at hv; simpa using ih r hv
theorem AtL.take (x : AtL h N vs ds) (i : Nat) : AtL h N (vs.take i) (ds.take i) := by
 induction vs generalizing ds i with
 | nil => cases x; simp; exact .nil
 | cons v vs ih => cases x with | cons a r => cases i with
  | zero => exact .nil
  | succ i => exact .cons a (ih r i)
theorem AtL.drop (x : AtL h N vs ds) (i : Nat) : AtL h N (vs.drop i) (ds.drop i) := by
 induction vs generalizing ds i with
 | nil => cases x; simp; exact .nil
 | cons v vs ih => cases x with | cons a r => cases i with
  | zero => exact .cons a r
  | succ i => exact ih r i
theorem AtL.set (x : AtL h N vs ds) (i : Nat) {v : Value} {d : D} (y : At h N v d) : AtL h N (vs.set i v) (ds.set i d) := by
 induction vs generalizing ds i with
 | nil => cases x; simp; exact .nil
 | cons u vs ih => cases x with | cons a r => cases i with
  | zero => exact .cons y r
  | succ i => exact .cons a (ih r i)
end
noncomputable def D.flat : D → Bool
 | .tup _ | .lst _ | .hdr _ | .lam _ _ | .opq _ => false
 | _ => true
theorem At.flatten {h h' : Heap} {N N' : Addr → Prop} {v : Value} {d : D} (x : At h N v d) (f : d.flat = true) : At h' N' v d := by
 cases x with
 | none => exact .none
 | bool b => exact .bool b
 | int i t => exact .int i t
 | str x t => exact .str x t
 | tup => cases f
 | lst => cases f
 | hdr => cases f
 | lam => cases f
 | opq => cases f
theorem AtL.flatten {h h' : Heap} {N N' : Addr → Prop} {vs : List Value} {ds : List D} (x : AtL h N vs ds) (f : ds.all D.flat = true) : AtL h' N' vs ds := by
 induction vs generalizing ds with
 | nil => cases x; exact .nil
 | cons v vs ih => cases x with | cons a r => simp only [List.all_cons, Bool.and_eq_true] at f; exact .cons (a.flatten f.1) (ih r f.2)
noncomputable def Kps (s s' : Shared) : Prop := ∃ h' tk, s' = { s with heap := h', toks := tk } ∧ Kp s.heap h'
theorem Kps.refl (s : Shared) : Kps s s := ⟨s.heap, s.toks, rfl, .refl _⟩
theorem Kps.trans {s₁ s₂ s₃ : Shared} (x : Kps s₁ s₂) (y : Kps s₂ s₃) : Kps s₁ s₃ := by
 obtain ⟨h, t, rfl, k⟩ := x
 obtain ⟨h', t', rfl, k'⟩ := y
 exact ⟨h', t', rfl, k.trans k'⟩
theorem Kps.kp {s s' : Shared} (x : Kps s s') : Kp s.heap s'.heap := by obtain ⟨h, t, rfl, k⟩ := x; exact k
theorem Kps.toks (s : Shared) (t : Nat) : Kps s { s with toks := t } := ⟨s.heap, t, rfl, .refl _⟩
theorem Kps.push (s : Shared) (o : Obj) (t : Nat) : Kps s { s with heap := s.heap.push o, toks := t } := ⟨_, t, rfl, .of fun b x e => Heap.get?_push_of_some o e⟩
theorem Kps.keeps {s : Shared} {h' : Heap} {tk : Nat} (k : ∀ b o, s.heap.get? b = some o → h'.get? b = some o) : Kps s { s with heap := h', toks := tk } := ⟨h', tk, rfl, .of k⟩
structure Cx where
 env : Env
 h₀ : Heap
 f : Str → Option Value
 ad : Str → Addr
 mu : Addr → Prop
 M : Addr → Prop
 F : Addr → Prop
 hid : Addr → Prop
 lk : Addr → Prop
noncomputable def Cx.bar (c : Cx) (a : Addr) : Prop := c.mu a ∨ c.hid a ∨ c.lk a
inductive Md where
 | flat | fresh | free | new | ro | any
 deriving DecidableEq
noncomputable def Cx.N (c : Cx) : Md → Addr → Prop
 | .flat, _ => False
 | .fresh, a => a ≠ TF ∧ ¬ c.bar a ∧ c.F a
 | .free, a => a ≠ TF ∧ ¬ c.bar a
 | .new, a => a ≠ TF ∧ c.F a
 | .ro, a => a ≠ TF ∧ ¬ c.mu a ∧ ¬ c.hid a
 | .any, a => a ≠ TF
noncomputable def Md.le : Md → Md → Bool
 | .flat, _ => true
 | .fresh, .flat => false
 | .fresh, _ => true
 | .free, .free => true
 | .free, .ro => true
 | .free, .any => true
 | .ro, .ro => true
 | .ro, .any => true
 | .new, .new => true
 | .new, .any => true
 | .any, .any => true
 | _, _ => false
theorem Cx.N.le {c : Cx} {m m' : Md} (h : m.le m' = true) {a : Addr} (n : c.N m a) : c.N m' a := by
 cases m <;> cases m' <;> first | exact False.elim n | exact n | exact n.1 | exact ⟨n.1, n.2.1⟩ | exact ⟨n.1, n.2.2⟩ | exact ⟨n.1, fun q => n.2 (.inl q), fun q => n.2 (.inr (.inl q))⟩ | exact ⟨n.1, fun q => n.2.1 (.inl q), fun q => n.2.1 (.inr (.inl q))⟩ | exact nomatch h
inductive LV where
 | dat (fr : Bool) (d : D)
 | own (sh : Bool) (ds : List D)
 | val (v : Value) (d : D)
 | ro (d : D)
 | hid
noncomputable abbrev Rho := List (Str × LV)
noncomputable abbrev Md.of (fr : Bool) : Md := match fr with | true => .fresh | false => .free
noncomputable def SaysT (w : World) (h : Heap) : Prop := Kp (H1 w.params) h
theorem SaysT.step {w : World} {h h' : Heap} {X : Addr → Prop} (x : SaysT w h) (k : KpX X h h') (hX : ∀ b, X b → (H1 w.params).get? b = none) (ht : ∀ N, TabOK h N → TabOK h' (fun a => N a ∨ h.get? a = none)) : SaysT w h' :=
 ⟨⟨fun b o n _ e => k.get b o n (fun q => by exact no (hX b q) e) (x.get b o n (fun q => q) e), fun o vs e d => by
  obtain ⟨m, e₁⟩ := x.tab o vs e d
  obtain ⟨m', e₂⟩ := k.tab _ _ e₁ rfl
  exact ⟨m ++ m', by rw [e₂, Array.append_assoc]⟩⟩, fun N z => (ht _ (x.tk N z)).weak fun a ne n => by
   rcases n with n | n
   ·exact n
   ·right
    cases e : (H1 w.params).get? a with
    | none => rfl
    | some o => rw [x.get a o ne (fun z => z) e] at n; cases n⟩
theorem tabH1 (P : Params) : TabOK (H1 P) (fun _ => False) := ⟨#[], by kernel_rfl, trivial, fun cv q => by cases q⟩
theorem SaysT.tabOK {w : World} {h : Heap} (x : SaysT w h) : TabOK h (fun a => (H1 w.params).get? a = none) := (x.tk _ (tabH1 w.params)).weak fun a _ n => n.resolve_left id
noncomputable def OwnAt (c : Cx) (h : Heap) (v : Value) (b : Addr) : Bool → Prop
 | false => v = .ref b
 | true => ∃ a i, v = .ref a ∧ c.N .free a ∧ c.N .free i ∧ HdrIs h a i b
noncomputable def Holds (c : Cx) (h : Heap) (x : Str) : LV → Prop
 | .dat fr d => ∃ v, c.f x = some v ∧ At h (c.N (Md.of fr)) v d
 | .own sh ds => ∃ v, c.f x = some v ∧ OwnAt c h v (c.ad x) sh ∧ (c.mu (c.ad x) ∧ c.F (c.ad x)) ∧ ∃ vs : List Value, h.PlainList (c.ad x) vs.toArray ∧ AtL h (c.N .fresh) vs ds
 | .val v d => c.f x = some v ∧ At h (c.N .free) v d
 | .ro d => ∃ v, c.f x = some v ∧ At h (c.N .ro) v d
 | .hid => True
structure Vars (c : Cx) (h : Heap) : Prop where
 ns : ∃ m, h.Ns c.env.locals m ∧ ∀ x, c.env.kindOf x = some .local → m x = c.f x
 cel : ∀ x, c.env.kindOf x = some .cell ∨ c.env.kindOf x = some .free → ∃ a, c.env.cells.lookup x = some a ∧ (a ≠ TF ∧ ¬ c.hid a) ∧ h.IsCell a (c.f x)
 inj : ∀ x y a, c.env.cells.lookup x = some a → c.env.cells.lookup y = some a → x = y
structure St (w : World) (sc : Scope) (c : Cx) (h : Heap) (ρ : Rho) : Prop where
 base₀ : SaysT w c.h₀
 keep : KpX c.M c.h₀ h
 hM : ∀ b, c.M b → (H1 w.params).get? b = none ∧ c.mu b
 hF : ∀ a, c.h₀.get? a = none → c.F a
 scp : c.env.scope = sc
 fn : sc.kind = .function
 glo : c.env.globals = mainGlobals
 blt : c.env.builtins = builtinsNs
 mutL : c.mu c.env.locals
 mutC : ∀ x a, sc.names.lookup (Str.ofString ".0") = none → c.env.kindOf x = some .cell → c.env.cells.lookup x = some a → c.mu a
 mutO : ∀ a, c.mu a → a ≠ TF ∧ (∃ o, h.get? a = some o) ∧ (c.h₀.get? a = none ∨ c.M a)
 vars : Vars c h
 nodup : (ρ.map (·.1)).Nodup
 vals : ∀ x l, (x, l) ∈ ρ → Holds c h x l
 own : ∀ x y sh sh' ds ds', (x, .own sh ds) ∈ ρ → (y, .own sh' ds') ∈ ρ → c.ad x = c.ad y → x = y
 hidO : ∀ a, c.hid a → a ≠ TF ∧ ¬ c.mu a ∧ c.h₀.get? a = none ∧ ∃ o, h.get? a = some o
 lkO : ∀ a, c.lk a → a ≠ TF ∧ ¬ c.mu a ∧ ¬ c.hid a ∧ ∃ o, h.get? a = some o
 tabO : ∀ N, TabOK c.h₀ N → TabOK h (fun a => (N a ∨ c.h₀.get? a = none) ∧ ¬ c.bar a)
 fr : isFr sc = true → c.env.code = .ref 347 ∧ c.env.qual = lamPre
theorem tab_here {w : World} {h : Heap} (x : SaysT w h) : ∃ o vs, h.get? TF = some o ∧ o.data = .fields vs := by
 have : ∃ o vs, (H1 w.params).get? TF = some o ∧ o.data = .fields vs := ⟨o345, _, by kernel_rfl, rfl⟩
 obtain ⟨o, vs, e, d⟩ := this
 obtain ⟨m, e'⟩ := x.tab o vs e d
 exact ⟨_, _, e', rfl⟩
section
variable {w : World} {sc : Scope} {c : Cx} {h h' : Heap} {ρ ρ' : Rho}
theorem ne_TF {w : World} {h : Heap} {a : Addr} (x : SaysT w h) (e : h.get? a = none) : a ≠ TF := by
 obtain ⟨o, vs, e', _⟩ := tab_here x
 exact ne_oo e e'
theorem St.base (S : St w sc c h ρ) : SaysT w h := S.base₀.step S.keep (fun b q => (S.hM b q).1) fun N z => (S.tabO N z).weak fun a _ n => n.1
theorem St.barO (S : St w sc c h ρ) {a : Addr} (b : c.bar a) : ∃ o, h.get? a = some o := by
 rcases b with b | b | b
 ·exact (S.mutO a b).2.1
 ·exact (S.hidO a b).2.2.2
 ·exact (S.lkO a b).2.2.2
theorem St.tabBar (S : St w sc c h ρ) : TabOK h (fun a => ¬ c.bar a) := (S.tabO _ S.base₀.tabOK).weak fun a _ n => n.2
theorem St.tabKp {c' : Cx} (S : St w sc c h ρ) (p : Kp h h') (hh : c'.h₀ = c.h₀) (hb : ∀ a, c'.bar a → c.bar a ∨ ∃ o, h.get? a = none ∧ h'.get? a = some o ∧ ¬ IsCode o) : ∀ N, TabOK c'.h₀ N → TabOK h' (fun a => (N a ∨ c'.h₀.get? a = none) ∧ ¬ c'.bar a) := fun N z => by
 rw [hh] at z ⊢
 refine (p.tk _ (S.tabO N z)).here.weak fun a ne n => ?_
 obtain ⟨n, o, e, d⟩ := n
 have nb : ¬ c'.bar a → (N a ∨ c.h₀.get? a = none) ∧ ¬ c'.bar a := fun q => by
  rcases n with n | n
  ·exact ⟨n.1, q⟩
  ·refine ⟨.inr ?_, q⟩
   cases e0 : c.h₀.get? a with
   | none => rfl
   | some o =>
    by_cases hM : c.M a
    ·obtain ⟨o, e⟩ := (S.mutO a (S.hM a hM).2).2.1
     exact no n e
    ·exact no n (S.keep.get a o ne hM e0)
 refine nb fun q => ?_
 rcases hb a q with q | ⟨o', _, e', d'⟩
 ·rcases n with n | n
  ·exact n.2 q
  ·obtain ⟨o, e⟩ := S.barO q
   exact no n e
 ·rw [e] at e'; cases e'; exact d' d
theorem St.tabBut {c' : Cx} {a₁ : Addr} (S : St w sc c h ρ) (hk : ∀ a o, a ≠ a₁ → h.get? a = some o → h'.get? a = some o) (hb : c.bar a₁) (hT : a₁ ≠ TF) (hh : c'.h₀ = c.h₀) (hb' : ∀ a, c'.bar a → c.bar a) : ∀ N, TabOK c'.h₀ N → TabOK h' (fun a => (N a ∨ c'.h₀.get? a = none) ∧ ¬ c'.bar a) := fun N z => by
 rw [hh] at z ⊢
 exact (S.tabO N z).map (fun o e => hk _ o (Ne.symm hT) e) fun a o ne d n e => ⟨hk a o (by rintro rfl; exact n.2 hb) e, n.1, fun q => n.2 (hb' a q)⟩
theorem OwnAt.step {b : Addr} {v : Value} {sh : Bool} (o : OwnAt c h v b sh) (hk : ∀ a o, c.N .free a → h.get? a = some o → h'.get? a = some o) : OwnAt c h' v b sh := by
 cases sh with
 | false => exact o
 | true =>
  obtain ⟨a, i, ev, na, ni, hh⟩ := o
  exact ⟨a, i, ev, na, ni, hh.map (fun o eo => hk a o na eo) fun o eo => hk i o ni eo⟩
theorem Holds.step {a₁ : Addr} {x : Str} {l : LV} (H : Holds c h x l) (hk : ∀ b o, b ≠ TF → b ≠ a₁ → h.get? b = some o → h'.get? b = some o) (hm : c.mu a₁) (hT : a₁ ≠ TF)
  (hT' : ∀ y, c.mu y → y ≠ TF) (hl : ∀ xs : Array Value, h.PlainList (c.ad x) xs → c.ad x ≠ a₁ ∨ (∀ sh ds, l ≠ .own sh ds)) : Holds c h' x l := by
 have kn : ∀ md : Md, md = .free ∨ md = .fresh → ∀ a o, c.N md a → h.get? a = some o → h'.get? a = some o ∧ c.N md a := by
  intro md hmd a o n e
  have : a ≠ TF ∧ ¬ c.bar a := by rcases hmd with rfl | rfl <;> first | exact n | exact ⟨n.1, n.2.1⟩
  exact ⟨hk a o this.1 (by rintro rfl; exact this.2 (.inl hm)) e, n⟩
 cases l with
 | dat fr d => obtain ⟨v, e, a⟩ := H; exact ⟨v, e, a.map (kn _ (by cases fr <;> simp [Md.of]))⟩
 | own sh ds =>
  obtain ⟨v, e, o, m, vs, p, a⟩ := H
  rcases hl _ p with hl | hl
  ·exact ⟨v, e, o.step fun a o n e => (kn .free (.inl rfl) a o n e).1, m, vs, p.at fun o eo => hk _ o (hT' _ m.1) hl eo, a.map (kn _ (.inr rfl))⟩
  ·exact absurd rfl (hl sh ds)
 | val v' d' => obtain ⟨e, a⟩ := H; exact ⟨e, a.map (kn _ (.inl rfl))⟩
 | ro d => obtain ⟨v, e, a⟩ := H; exact ⟨v, e, a.map fun a o n e => ⟨hk a o n.1 (by rintro rfl; exact n.2.1 hm) e, n⟩⟩
 | hid => trivial
theorem St.kp (S : St w sc c h ρ) (p : Kp h h') : St w sc c h' ρ where
 base₀ := S.base₀
 keep := S.keep.trans p.to
 hM := S.hM
 hF := S.hF
 scp := S.scp
 fn := S.fn
 glo := S.glo
 blt := S.blt
 mutL := S.mutL
 mutC := S.mutC
 mutO := fun a q => let ⟨n, ⟨o, e⟩, r⟩ := S.mutO a q; ⟨n, ⟨o, p.get a o n (fun z => z) e⟩, r⟩
 vars := by
  refine ⟨?_, ?_, S.vars.inj⟩
  ·obtain ⟨m, n, e⟩ := S.vars.ns
   exact ⟨m, n.at' (fun o eo => p.get _ o (S.mutO _ S.mutL).1 (fun z => z) eo), e⟩
  ·intro x q
   obtain ⟨a, e, n, ⟨o, eo, d⟩⟩ := S.vars.cel x q
   exact ⟨a, e, n, o, p.get _ o n.1 (fun z => z) eo, d⟩
 nodup := S.nodup
 vals := fun x l q => by
  have kn : ∀ md : Md, md = .free ∨ md = .fresh → ∀ a o, c.N md a → h.get? a = some o → h'.get? a = some o ∧ c.N md a := by
   intro md hmd a o n e
   have : a ≠ TF := by rcases hmd with rfl | rfl <;> exact n.1
   exact ⟨p.get a o this (fun z => z) e, n⟩
  have H := S.vals x l q
  cases l with
  | dat fr d => obtain ⟨v, e, a⟩ := H; exact ⟨v, e, a.map (kn _ (by cases fr <;> simp [Md.of]))⟩
  | own sh ds =>
   obtain ⟨v, e, o, m, vs, pl, a⟩ := H
   refine ⟨v, e, ?_, m, vs, pl.at fun o eo => p.get _ o (S.mutO _ m.1).1 (fun z => z) eo, a.map (kn _ (.inr rfl))⟩
   cases sh with
   | false => exact o
   | true =>
    obtain ⟨a, i, ev, na, ni, hh⟩ := o
    exact ⟨a, i, ev, na, ni, hh.map (fun o eo => (kn .free (.inl rfl) a o na eo).1) (fun o eo => (kn .free (.inl rfl) i o ni eo).1)⟩
  | val v' d' => obtain ⟨e, a⟩ := H; exact ⟨e, a.map (kn _ (.inl rfl))⟩
  | ro d => obtain ⟨v, e, a⟩ := H; exact ⟨v, e, a.map fun a o n e => ⟨p.get a o n.1 (fun z => z) e, n⟩⟩
  | hid => trivial
 own := S.own
 hidO := fun a q => let ⟨n, m, z, o, e⟩ := S.hidO a q; ⟨n, m, z, o, p.get a o n (fun z => z) e⟩
 lkO := fun a q => let ⟨n, m, z, o, e⟩ := S.lkO a q; ⟨n, m, z, o, p.get a o n (fun z => z) e⟩
 tabO := S.tabKp p rfl fun a q => .inl q
 fr := S.fr
inductive Weak : Rho → Rho → Prop
 | nil : Weak [] []
 | keep {x l r r'} : Weak r r' → Weak ((x, l) :: r) ((x, l) :: r')
 | hide {x l r r'} : Weak r r' → Weak ((x, l) :: r) ((x, .hid) :: r')
theorem Weak.names (k : Weak ρ ρ') : ρ'.map (·.1) = ρ.map (·.1) := by induction k <;> simp_all
theorem Weak.mem (k : Weak ρ ρ') {x : Str} {l : LV} (m : (x, l) ∈ ρ') : (x, l) ∈ ρ ∨ l = .hid := by
 induction k with
 | nil => cases m
 | keep k ih => cases m with
  | head => exact .inl (.head _)
  | tail _ m => exact (ih m).imp (.tail _) id
 | hide k ih => cases m with
  | head => exact .inr rfl
  | tail _ m => exact (ih m).imp (.tail _) id
theorem Weak.refl : ∀ ρ : Rho, Weak ρ ρ
 | [] => .nil
 | (x, l) :: r => .keep (Weak.refl r)
theorem St.weak (S : St w sc c h ρ) (k : Weak ρ ρ') : St w sc c h ρ' :=
 { S with
  nodup := by rw [k.names]; exact S.nodup
  vals := fun x l q => (k.mem q).elim (S.vals x l) fun e => by subst e; trivial
  own := fun x y sh sh' ds ds' q q' => S.own x y sh sh' ds ds' ((k.mem q).resolve_right (by intro z; cases z)) ((k.mem q').resolve_right (by intro z; cases z)) }
inductive Upd : Rho → Str → LV → Rho → Prop
 | head {x l l' r} : Upd ((x, l) :: r) x l' ((x, l') :: r)
 | tail {x y l l' r r'} : Upd r x l' r' → Upd ((y, l) :: r) x l' ((y, l) :: r')
theorem Upd.names {x : Str} {l : LV} (k : Upd ρ x l ρ') : ρ'.map (·.1) = ρ.map (·.1) := by induction k <;> simp_all
theorem Upd.key {x : Str} {l : LV} (k : Upd ρ x l ρ') : x ∈ ρ.map (·.1) := by induction k <;> simp_all
theorem Upd.mem {x : Str} {l : LV} (k : Upd ρ x l ρ') (nd : (ρ.map (·.1)).Nodup) {y : Str} {l' : LV} (m : (y, l') ∈ ρ') : (y = x ∧ l' = l) ∨ (y ≠ x ∧ (y, l') ∈ ρ) := by
 induction k with
 | @head x l l₁ r =>
  rw [List.map_cons, List.nodup_cons] at nd
  cases m with
  | head => exact .inl ⟨rfl, rfl⟩
  | tail _ m => exact .inr ⟨by rintro rfl; exact nd.1 (List.mem_map.mpr ⟨_, m, rfl⟩), .tail _ m⟩
 | @tail x z l₂ l₁ r r' k ih =>
  rw [List.map_cons, List.nodup_cons] at nd
  cases m with
  | head => exact .inr ⟨by rintro rfl; exact nd.1 k.key, .head _⟩
  | tail _ m => exact (ih nd.2 m).imp id fun q => ⟨q.1, .tail _ q.2⟩
theorem Upd.mid {x : Str} {l : LV} (k : Upd ρ x l ρ') : ∃ ρ₀, Upd ρ x .hid ρ₀ ∧ Upd ρ₀ x l ρ' := by
 induction k with
 | head => exact ⟨_, .head, .head⟩
 | tail k ih => obtain ⟨r, a, b⟩ := ih; exact ⟨_, .tail a, .tail b⟩
theorem Upd.weak {x : Str} (k : Upd ρ x .hid ρ') : Weak ρ ρ' := by
 generalize e : LV.hid = l at k
 induction k with
 | head => subst e; exact .hide (.refl _)
 | tail k ih => exact .keep (ih e)
structure Ext (c : Cx) (s : Shared) (c' : Cx) (s' : Shared) : Prop where
 env : c'.env = c.env
 h₀ : c'.h₀ = c.h₀
 M : c'.M = c.M
 F : c'.F = c.F
 hid : c'.hid = c.hid
 lk : c'.lk = c.lk
 mono : ∀ a, c.mu a → c'.mu a
 new : ∀ a, c'.mu a → c.mu a ∨ (s.heap.get? a = none ∧ a ≠ TF)
 kp : KpX c.mu s.heap s'.heap
 sh : ∃ h t, s' = { s with heap := h, toks := t }
theorem Ext.refl (c : Cx) (s : Shared) : Ext c s c s := ⟨rfl, rfl, rfl, rfl, rfl, rfl, fun _ q => q, fun _ q => .inl q, .refl _ _, s.heap, s.toks, rfl⟩
theorem Ext.kps {c : Cx} {s s' : Shared} (k : Kps s s') : Ext c s c s' := ⟨rfl, rfl, rfl, rfl, rfl, rfl, fun _ q => q, fun _ q => .inl q, k.kp.to, let ⟨h, t, e, _⟩ := k; ⟨h, t, e⟩⟩
theorem Ext.trans {c₁ c₂ c₃ : Cx} {s₁ s₂ s₃ : Shared} (x : Ext c₁ s₁ c₂ s₂) (y : Ext c₂ s₂ c₃ s₃) : Ext c₁ s₁ c₃ s₃ where
 env := y.env.trans x.env
 h₀ := y.h₀.trans x.h₀
 M := y.M.trans x.M
 F := y.F.trans x.F
 hid := y.hid.trans x.hid
 lk := y.lk.trans x.lk
 mono := fun a q => y.mono a (x.mono a q)
 new := fun a q => by
  rcases y.new a q with q | ⟨q, n⟩
  ·exact x.new a q
  ·by_cases m : c₁.mu a
   ·exact .inl m
   ·right
    cases e : s₁.heap.get? a with
    | none => exact ⟨rfl, n⟩
    | some o => exact no q (x.kp.get a o n m e)
 kp := ⟨fun b o n z e => y.kp.get b o n (fun q => by
   rcases x.new b q with q | ⟨q, _⟩
   ·exact z q
   ·exact no q e) (x.kp.get b o n z e), fun o vs e d => by
   obtain ⟨m, e₁⟩ := x.kp.tab o vs e d
   obtain ⟨m', e₂⟩ := y.kp.tab _ _ e₁ rfl
   exact ⟨m ++ m', by rw [e₂, Array.append_assoc]⟩⟩
 sh := by
  obtain ⟨h, t, rfl⟩ := x.sh
  obtain ⟨h', t', rfl⟩ := y.sh
  exact ⟨h', t', rfl⟩
theorem Ext.at {c c' : Cx} {s s' : Shared} (x : Ext c s c' s') {md : Md} (hm : md.le .free = true) {v : Value} {d : D} (a : At s.heap (c.N md) v d) : At s'.heap (c'.N md) v d :=
 a.map fun b o n e => by
  have n' : c.N .free b := Cx.N.le hm n
  have nm : ¬ c'.bar b := fun q => by
   rcases q with q | q | q
   ·rcases x.new b q with q | ⟨q, _⟩
    ·exact n'.2 (.inl q)
    ·exact no q e
   ·rw [x.hid] at q; exact n'.2 (.inr (.inl q))
   ·rw [x.lk] at q; exact n'.2 (.inr (.inr q))
  refine ⟨x.kp.get b o n'.1 (fun q => n'.2 (.inl q)) e, ?_⟩
  cases md with
  | flat => exact n
  | fresh => exact ⟨n.1, nm, x.F ▸ n.2.2⟩
  | free => exact ⟨n.1, nm⟩
  | new => cases hm
  | ro => cases hm
  | any => cases hm
theorem Ext.atL {c c' : Cx} {s s' : Shared} (x : Ext c s c' s') {md : Md} (hm : md.le .free = true) {vs : List Value} {ds : List D} (a : AtL s.heap (c.N md) vs ds) : AtL s'.heap (c'.N md) vs ds :=
 a.map fun b o n e => by
  have n' : c.N .free b := Cx.N.le hm n
  have nm : ¬ c'.bar b := fun q => by
   rcases q with q | q | q
   ·rcases x.new b q with q | ⟨q, _⟩
    ·exact n'.2 (.inl q)
    ·exact no q e
   ·rw [x.hid] at q; exact n'.2 (.inr (.inl q))
   ·rw [x.lk] at q; exact n'.2 (.inr (.inr q))
  refine ⟨x.kp.get b o n'.1 (fun q => n'.2 (.inl q)) e, ?_⟩
  cases md with
  | flat => exact n
  | fresh => exact ⟨n.1, nm, x.F ▸ n.2.2⟩
  | free => exact ⟨n.1, nm⟩
  | new => cases hm
  | ro => cases hm
  | any => cases hm
structure Sets (c : Cx) (x : Str) (v : Value) (h h' : Heap) : Prop where
 obj : ∃ a, c.mu a ∧ (a = c.env.locals ∨ ∃ z, h.IsCell a z) ∧ Heap.SameBut a h h' ∧ ∃ o, h'.get? a = some o
 vars : Vars { c with f := fun y => if y = x then some v else c.f y } h'
theorem PlainL.ne {a b : Addr} {xs : Array Value} (p : h.PlainList b xs) (k : (∃ m, h.Ns a m) ∨ ∃ z, h.IsCell a z) : b ≠ a := by
 rintro rfl
 obtain ⟨n, e⟩ := p
 rcases k with ⟨m, o, es, ep, e', d, _⟩ | ⟨z, o, e', d⟩ <;> rw [e] at e' <;> cases e' <;> cases d
theorem Sets.st {x : Str} {v : Value} {l : LV} (S : St w sc c h ρ) (z : Sets c x v h h') (u : Upd ρ x l ρ')
  (hd : ∀ fr d, l = .dat fr d → At h (c.N (Md.of fr)) v d)
  (ho : ∀ sh ds, l = .own sh ds → OwnAt c h v (c.ad x) sh ∧ (c.mu (c.ad x) ∧ c.F (c.ad x)) ∧ ∃ vs : List Value, h.PlainList (c.ad x) vs.toArray ∧ AtL h (c.N .fresh) vs ds)
  (hl : ∀ v' d', l = .val v' d' → v = v' ∧ At h (c.N .free) v d')
  (hi : ∀ sh ds, l = .own sh ds → ∀ y sh' ds', y ≠ x → (y, .own sh' ds') ∈ ρ → c.ad x ≠ c.ad y) (hr : ∀ d, l = .ro d → False := by intro _ z; cases z) :
  St w sc { c with f := fun y => if y = x then some v else c.f y } h' ρ' := by
 obtain ⟨a₁, m₁, k₁, sb, o₁, e₁⟩ := z.obj
 have hT := (S.mutO _ m₁).1
 have kk : (∃ m, h.Ns a₁ m) ∨ ∃ z, h.IsCell a₁ z := by
  rcases k₁ with rfl | k
  ·obtain ⟨m, n, _⟩ := S.vars.ns; exact .inl ⟨m, n⟩
  ·exact .inr k
 have hstep : ∀ y l', Holds c h y l' → Holds c h' y l' := fun y l' H => H.step (fun b o _ ne e => (sb.2 b ne).trans e) m₁ hT (fun y q => (S.mutO y q).1) fun xs p => .inl (PlainL.ne p kk)
 refine ⟨S.base₀, ⟨fun b o n q e => ?_, ?_⟩, S.hM, S.hF, S.scp, S.fn, S.glo, S.blt, S.mutL, S.mutC, fun a q => ?_, z.vars, by rw [u.names]; exact S.nodup, ?_, ?_, fun a q => ?_, fun a q => ?_, S.tabBut (fun a o ne e => (sb.2 a ne).trans e) (.inl m₁) hT rfl (fun _ q => q), S.fr⟩
 ·refine (sb.2 b ?_).trans (S.keep.get b o n q e)
  rintro rfl
  rcases (S.mutO _ m₁).2.2 with r | r
  ·exact no r e
  ·exact q r
 ·intro o vs e d
  obtain ⟨more, e'⟩ := S.keep.tab o vs e d
  exact ⟨more, (sb.2 TF (Ne.symm hT)).trans e'⟩
 ·obtain ⟨n, ⟨o, e⟩, r⟩ := S.mutO a q
  refine ⟨n, ?_, r⟩
  by_cases ea : a = a₁
  ·exact ⟨o₁, ea ▸ e₁⟩
  ·exact ⟨o, (sb.2 a ea).trans e⟩
 ·intro y l' q
  rcases u.mem S.nodup q with ⟨rfl, rfl⟩ | ⟨ne, q⟩
  ·have H : Holds { c with f := fun z => if z = y then some v else c.f z } h y l' := by
    cases l' with
    | dat fr d => exact ⟨v, if_pos rfl, hd fr d rfl⟩
    | own sh ds => exact ⟨v, if_pos rfl, ho sh ds rfl⟩
    | val v' d' => obtain ⟨e, a⟩ := hl v' d' rfl; exact ⟨(if_pos rfl).trans (congrArg some e), e ▸ a⟩
    | ro d => exact (hr d rfl).elim
    | hid => trivial
   exact H.step (fun b o _ ne e => (sb.2 b ne).trans e) m₁ hT (fun y q => (S.mutO y q).1) fun xs p => .inl (PlainL.ne p kk)
  ·have H := hstep y l' (S.vals y l' q)
   cases l' with
   | dat fr d => obtain ⟨u, e, a⟩ := H; exact ⟨u, (if_neg ne).trans e, a⟩
   | own sh ds => obtain ⟨u, e, a⟩ := H; exact ⟨u, (if_neg ne).trans e, a⟩
   | val v' d' => obtain ⟨e, a⟩ := H; exact ⟨(if_neg ne).trans e, a⟩
   | ro d => obtain ⟨u, e, a⟩ := H; exact ⟨u, (if_neg ne).trans e, a⟩
   | hid => trivial
 ·intro y y' sh sh' ds ds' q q' ea
  rcases u.mem S.nodup q with ⟨rfl, e⟩ | ⟨ne, q⟩ <;> rcases u.mem S.nodup q' with ⟨rfl, e'⟩ | ⟨ne', q'⟩
  ·rfl
  ·exact absurd ea (hi _ _ e.symm _ _ _ ne' q')
  ·exact absurd ea.symm (hi _ _ e'.symm _ _ _ ne q)
  ·exact S.own y y' sh sh' ds ds' q q' ea
 ·obtain ⟨n, m, z, o, e⟩ := S.hidO a q
  exact ⟨n, m, z, o, (sb.2 a (by rintro rfl; exact m m₁)).trans e⟩
 ·obtain ⟨n, m, z, o, e⟩ := S.lkO a q
  exact ⟨n, m, z, o, (sb.2 a (by rintro rfl; exact m m₁)).trans e⟩
theorem Sets.ext {x : Str} {v : Value} {s : Shared} (S : St w sc c s.heap ρ) (z : Sets c x v s.heap h') (t : Nat) : Ext c s { c with f := fun y => if y = x then some v else c.f y } { s with heap := h', toks := t } := by
 obtain ⟨a₁, m₁, k₁, sb, o₁, e₁⟩ := z.obj
 exact ⟨rfl, rfl, rfl, rfl, rfl, rfl, fun _ q => q, fun _ q => .inl q, .sameBut sb m₁ (S.mutO _ m₁).1, h', t, rfl⟩
theorem St.putG {b₀ : Addr} {xs₀ xs₁ : Array Value} (S : St w sc c h ρ) (m : c.mu b₀) (p₀ : h.PlainList b₀ xs₀) (p : h'.PlainList b₀ xs₁) (kx : KpX (fun a => a = b₀) h h') (tt : ∀ N, TabOK c.h₀ N → TabOK h' (fun a => (N a ∨ c.h₀.get? a = none) ∧ ¬ c.bar a)) (hn : (ρ'.map (·.1)).Nodup)
  (hv : ∀ y l, (y, l) ∈ ρ' → ((y, l) ∈ ρ ∧ ∀ sh ds, l = .own sh ds → c.ad y ≠ b₀) ∨ Holds c h' y l) (ho : ∀ y sh ds, (y, LV.own sh ds) ∈ ρ' → ∃ sh ds, (y, LV.own sh ds) ∈ ρ) : St w sc c h' ρ' := by
 have hT := (S.mutO _ m).1
 refine ⟨S.base₀, ⟨fun b o n q e => ?_, ?_⟩, S.hM, S.hF, S.scp, S.fn, S.glo, S.blt, S.mutL, S.mutC, fun a q => ?_, ⟨?_, ?_, S.vars.inj⟩, hn, fun y l q => ?_, fun y y' sh sh' ds ds' q q' ea => ?_, fun a q => ?_, fun a q => ?_, tt, S.fr⟩
 ·refine kx.get b o n (fun z => ?_) (S.keep.get b o n q e)
  rcases (S.mutO _ m).2.2 with r | r
  ·exact no r (z ▸ e)
  ·exact q (z ▸ r)
 ·intro o vs e d
  obtain ⟨more, e'⟩ := S.keep.tab o vs e d
  obtain ⟨more', e''⟩ := kx.tab _ _ e' rfl
  exact ⟨more ++ more', by rw [e'', Array.append_assoc]⟩
 ·obtain ⟨n, ⟨o, e⟩, r⟩ := S.mutO a q
  refine ⟨n, ?_, r⟩
  by_cases ea : a = b₀
  ·obtain ⟨k, e⟩ := p; exact ⟨_, ea ▸ e⟩
  ·exact ⟨o, kx.get a o n ea e⟩
 ·obtain ⟨m', n, e⟩ := S.vars.ns
  exact ⟨m', n.at' fun o eo => kx.get _ o (S.mutO _ S.mutL).1 (Ne.symm (PlainL.ne p₀ (.inl ⟨m', n⟩))) eo, e⟩
 ·intro y q
  obtain ⟨b, e, n, ic⟩ := S.vars.cel y q
  have ne := Ne.symm (PlainL.ne p₀ (.inr ⟨_, ic⟩))
  obtain ⟨o, eo, d⟩ := ic
  exact ⟨b, e, n, o, kx.get b o n.1 ne eo, d⟩
 ·rcases hv y l q with ⟨q, ne⟩ | H
  ·refine (S.vals y l q).step (fun b o nT ne e => kx.get b o nT ne e) m hT (fun y q => (S.mutO y q).1) fun xs p => ?_
   by_cases ea : c.ad y = b₀
   ·exact .inr fun sh ds e => ne sh ds e ea
   ·exact .inl ea
  ·exact H
 ·obtain ⟨_, _, q⟩ := ho _ _ _ q
  obtain ⟨_, _, q'⟩ := ho _ _ _ q'
  exact S.own _ _ _ _ _ _ q q' ea
 ·obtain ⟨n, m', z, o, e⟩ := S.hidO a q
  exact ⟨n, m', z, o, kx.get a o n (fun y => m' (y ▸ m)) e⟩
 ·obtain ⟨n, m', z, o, e⟩ := S.lkO a q
  exact ⟨n, m', z, o, kx.get a o n (fun y => m' (y ▸ m)) e⟩
theorem St.putT {x : Str} {sh : Bool} {ds ds' : List D} {vs : List Value} (S : St w sc c h ρ) (hx : (x, .own sh ds) ∈ ρ) (u : Upd ρ x (.own sh ds') ρ') (kx : KpX (fun a => a = c.ad x) h h') (tt : ∀ N, TabOK c.h₀ N → TabOK h' (fun a => (N a ∨ c.h₀.get? a = none) ∧ ¬ c.bar a)) (p : h'.PlainList (c.ad x) vs.toArray)
  (a : AtL h' (c.N .fresh) vs ds') : St w sc c h' ρ' := by
 obtain ⟨v, e, o, ⟨m, mF⟩, vs₀, p₀, a₀⟩ := S.vals x _ hx
 refine S.putG m p₀ p kx tt (by rw [u.names]; exact S.nodup) (fun y l q => ?_) fun y sh' ds₂ q => ?_
 ·rcases u.mem S.nodup q with ⟨rfl, rfl⟩ | ⟨ne, q⟩
  ·exact .inr ⟨v, e, o.step fun a o n e => kx.get a o n.1 (fun z => n.2 (.inl (z ▸ m))) e, ⟨m, mF⟩, vs, p, a⟩
  ·refine .inl ⟨q, fun sh' ds'' el ea => ?_⟩
   subst el
   exact ne (S.own y x sh' sh ds'' ds q hx ea)
 ·rcases u.mem S.nodup q with ⟨rfl, _⟩ | ⟨_, q⟩
  ·exact ⟨_, _, hx⟩
  ·exact ⟨_, _, q⟩
theorem St.tabK (S : St w sc c h ρ) (tk : ∀ N, TabOK h N → TabOK h' (fun a => N a ∨ h.get? a = none)) : ∀ N, TabOK c.h₀ N → TabOK h' (fun a => (N a ∨ c.h₀.get? a = none) ∧ ¬ c.bar a) := fun N z => (tk _ (S.tabO N z)).weak fun a ne n => by
 rcases n with n | n
 ·exact n
 ·refine ⟨.inr ?_, fun q => ?_⟩
  ·cases e0 : c.h₀.get? a with
   | none => rfl
   | some o =>
    by_cases hM : c.M a
    ·obtain ⟨o, e⟩ := (S.mutO a (S.hM a hM).2).2.1
     exact no n e
    ·exact no n (S.keep.get a o ne hM e0)
  ·obtain ⟨o, e⟩ := S.barO q
   exact no n e
theorem St.putH {x : Str} {sh : Bool} {ds ds' : List D} {vs : List Value} (S : St w sc c h ρ) (hx : (x, .own sh ds) ∈ ρ) (u : Upd ρ x (.own sh ds') ρ') (kx : KpX (fun a => a = c.ad x) h h') (tk : ∀ N, TabOK h N → TabOK h' (fun a => N a ∨ h.get? a = none)) (p : h'.PlainList (c.ad x) vs.toArray)
  (a : AtL h' (c.N .fresh) vs ds') : St w sc c h' ρ' := S.putT hx u kx (S.tabK tk) p a
theorem St.put {x : Str} {sh : Bool} {ds ds' : List D} {vs : List Value} (S : St w sc c h ρ) (hx : (x, .own sh ds) ∈ ρ) (u : Upd ρ x (.own sh ds') ρ') (sb : Heap.SameBut (c.ad x) h h') (p : h'.PlainList (c.ad x) vs.toArray)
  (a : AtL h (c.N .fresh) vs ds') : St w sc c h' ρ' := by
 obtain ⟨_, _, _, ⟨m, _⟩, _⟩ := S.vals x _ hx
 have hT := (S.mutO _ m).1
 exact S.putT hx u (.sameBut sb rfl hT) (S.tabBut (fun a o ne e => (sb.2 a ne).trans e) (.inl m) hT rfl fun _ q => q) p (a.map fun a o n e => ⟨(sb.2 a fun z => n.2.1 (.inl (z ▸ m))).trans e, n⟩)
theorem St.putZ {b₀ : Addr} {xs₀ xs₁ : Array Value} (S : St w sc c h ρ) (m : c.mu b₀) (p₀ : h.PlainList b₀ xs₀) (hne : ∀ y sh ds, (y, .own sh ds) ∈ ρ → c.ad y ≠ b₀) (kx : KpX (fun a => a = b₀) h h') (tk : ∀ N, TabOK h N → TabOK h' (fun a => N a ∨ h.get? a = none)) (p : h'.PlainList b₀ xs₁) : St w sc c h' ρ :=
 S.putG m p₀ p kx (S.tabK tk) S.nodup (fun y l q => .inl ⟨q, fun sh ds e => hne y sh ds (e ▸ q)⟩) fun y sh ds q => ⟨sh, ds, q⟩
theorem St.grow {b : Addr} {o : Obj} (S : St w sc c h ρ) (p : Kp h h') (hb : h.get? b = none) (hb' : h'.get? b = some o) (hd : ¬ IsCode o := by exact noFields fun _ z => by cases z) : St w sc { c with mu := fun a => c.mu a ∨ a = b } h' ρ := by
 have hT : b ≠ TF := by
  rintro rfl
  refine bc fun gG => ?_
  obtain ⟨o, vs, e, _⟩ := tab_here S.base
  refine gG ?_; clear gG
  exact no hb e
 have S' := S.kp p
 have kn : ∀ md : Md, md = .free ∨ md = .fresh → ∀ a o, c.N md a → h.get? a = some o → h'.get? a = some o ∧ Cx.N { c with mu := fun a => c.mu a ∨ a = b } md a := by
  intro md hmd a o n e
  have nb : a ≠ b := by exact (ne_oo hb e).symm
  rcases hmd with rfl | rfl
  ·exact ⟨p.get a o n.1 (fun z => z) e, n.1, fun q => q.elim (fun q => q.elim (fun q => n.2 (.inl q)) nb) fun q => n.2 (.inr q)⟩
  ·exact ⟨p.get a o n.1 (fun z => z) e, n.1, fun q => q.elim (fun q => q.elim (fun q => n.2.1 (.inl q)) nb) (fun q => n.2.1 (.inr q)), n.2.2⟩
 refine ⟨S'.base₀, S'.keep, fun b q => ⟨(S'.hM b q).1, .inl (S'.hM b q).2⟩, S'.hF, S'.scp, S'.fn, S'.glo, S'.blt, .inl S'.mutL, fun x a z q r => .inl (S'.mutC x a z q r), ?_, ⟨S'.vars.ns, S'.vars.cel, S'.vars.inj⟩, S'.nodup, ?_, S'.own, fun a q => let ⟨n, m, y, o, e⟩ := S'.hidO a q; ⟨n, fun z => z.elim m (by rintro rfl; obtain ⟨_, _, _, o, e⟩ := S.hidO _ q; exact no hb e), y, o, e⟩, fun a q => let ⟨n, m, y, o, e⟩ := S'.lkO a q; ⟨n, fun z => z.elim m (by rintro rfl; obtain ⟨_, _, _, o, e⟩ := S.lkO _ q; exact no hb e), y, o, e⟩, S.tabKp p rfl fun a q => by
  rcases q with (q | rfl) | q
  ·exact .inl (.inl q)
  ·exact .inr ⟨o, hb, hb', hd⟩
  ·exact .inl (.inr q), S.fr⟩
 ·intro a q
  rcases q with q | rfl
  ·exact S'.mutO a q
  ·refine ⟨hT, ⟨o, hb'⟩, ?_⟩
   by_cases m : c.M a
   ·exact .inr m
   ·left
    cases e : c.h₀.get? a with
    | none => rfl
    | some o => exact no hb (S.keep.get a o hT m e)
 ·intro x l q
  have H := S.vals x l q
  have H' := S'.vals x l q
  cases l with
  | dat fr d => obtain ⟨v, e, a⟩ := H; exact ⟨v, e, a.map (kn _ (by cases fr <;> simp [Md.of]))⟩
  | own sh ds =>
   refine bc fun gG => ?_
   obtain ⟨v, e, o, m, vs, pl, a⟩ := H
   refine gG ?_; clear gG
   refine ⟨v, e, ?_, ⟨.inl m.1, m.2⟩, vs, pl.at fun o eo => p.get _ o (S.mutO _ m.1).1 (fun z => z) eo, a.map (kn _ (.inr rfl))⟩
   cases sh with
   | false => exact o
   | true =>
    refine bc fun gG => ?_
    obtain ⟨a, i, ev, na, ni, hh⟩ := o
    obtain ⟨oa, oi, ea, _, _, _, ei, _⟩ := id hh
    refine gG ?_; clear gG
    exact ⟨a, i, ev, (kn .free (.inl rfl) a _ na ea).2, (kn .free (.inl rfl) i _ ni ei).2, hh.map (fun o eo => (kn .free (.inl rfl) a o na eo).1) (fun o eo => (kn .free (.inl rfl) i o ni eo).1)⟩
  | val v' d' => obtain ⟨e, a⟩ := H; exact ⟨e, a.map (kn _ (.inl rfl))⟩
  | ro d => obtain ⟨v, e, a⟩ := H; exact ⟨v, e, a.map fun a o n e => ⟨p.get a o n.1 (fun z => z) e, n.1, fun q => q.elim n.2.1 (by exact (ne_oo hb e).symm), n.2.2⟩⟩
  | hid => trivial
theorem St.grow_ext {b : Addr} {s : Shared} {t : Nat} (S : St w sc c s.heap ρ) (p : Kp s.heap h') (hb : s.heap.get? b = none) : Ext c s { c with mu := fun a => c.mu a ∨ a = b } { s with heap := h', toks := t } :=
 ⟨rfl, rfl, rfl, rfl, rfl, rfl, fun _ q => .inl q, fun a q => q.imp id fun e => by subst e; exact ⟨hb, by
  rintro rfl
  obtain ⟨o, vs, e, _⟩ := tab_here S.base
  rw [hb] at e; cases e⟩, p.to, h', t, rfl⟩
end
structure Room (A : Around) (k : Nat) : Prop where
 hh : A.handled = none
 depth : A.depth + k < 900
 units : A.units + 8 * k + 400 < cLine
theorem Room.deeper {A : Around} {k : Nat} (R : Room A (k + 1)) (env : Env) : Room (A.deeper env) k := ⟨R.hh, by have := R.depth; show A.depth + 1 + k < _; lia, by have := R.units; show A.units + 3 + 8 * k + 400 < _; lia⟩
theorem Room.lim {A : Around} {k : Nat} (R : Room A k) : A.depth < recursionLimit := by have := R.depth; show _ < 1000; lia
theorem Cx.N.ne {c : Cx} {md : Md} {a : Addr} (n : c.N md a) : a ≠ TF := by
 cases md <;> first | exact False.elim n | exact n.1 | exact n
noncomputable def Ev (w : World) (k : Nat) (sc : Scope) (ρ : Rho) (md : Md) (e : PySem.Expr) (d : D) : Prop :=
 ∀ (A : Around) (c : Cx) (s : Shared) (Q : Value → Shared → Prop) (E : Value → Shared → Prop), Room A k → St w sc c s.heap ρ →
  (∀ v s', Kps s s' → At s'.heap (c.N md) v d → Q v s') → wpAny (model pr w) A (eval e c.env) Q E s
noncomputable def EvV (w : World) (k : Nat) (sc : Scope) (ρ : Rho) (e : PySem.Expr) (v : Value) : Prop :=
 ∀ (A : Around) (c : Cx) (s : Shared) (Q : Value → Shared → Prop) (E : Value → Shared → Prop), Room A k → St w sc c s.heap ρ → Q v s → wpAny (model pr w) A (eval e c.env) Q E s
noncomputable def EvL (w : World) (k : Nat) (sc : Scope) (ρ : Rho) (md : Md) (es : List PySem.Expr) (ds : List D) : Prop :=
 ∀ (A : Around) (pos : Pos) (c : Cx) (s : Shared) (Q : List Value → Shared → Prop) (E : Value → Shared → Prop), Room A k → St w sc c s.heap ρ →
  (∀ vs s', Kps s s' → AtL s'.heap (c.N md) vs ds → Q vs s') → wpAny (model pr w) A (spliced (backTo pos (starEach es c.env))) Q E s
noncomputable def Ts (w : World) (k : Nat) (sc : Scope) (ρ : Rho) (e : PySem.Expr) (b : Bool) : Prop :=
 ∀ (A : Around) (c : Cx) (s : Shared) (Q : Bool → Shared → Prop) (E : Value → Shared → Prop), Room A k → St w sc c s.heap ρ →
  (∀ s', Kps s s' → Q b s') → wpAny (model pr w) A (isTrue e c.env (eval e c.env)) Q E s
noncomputable def AllT (w : World) (k : Nat) (sc : Scope) (ρ : Rho) (op : BoolOp) (es : List PySem.Expr) (b : Bool) : Prop :=
 ∀ (A : Around) (c : Cx) (s : Shared) (Q : Bool → Shared → Prop) (E : Value → Shared → Prop), Room A k → St w sc c s.heap ρ →
  (∀ s', Kps s s' → Q b s') → wpAny (model pr w) A (allTrue op es c.env) Q E s
theorem get_end (h : Heap) : h.get? h.objs.size = none := by
 cases e : h.get? h.objs.size with
 | none => rfl
 | some o => exact absurd (Heap.lt_size e) (Nat.lt_irrefl _)
noncomputable def Bin (w : World) (k : Nat) (sc : Scope) (ρ : Rho) (op : Operator) (m₁ : Md) (d₁ : D) (m₂ : Md) (d₂ : D) (md : Md) (d : D) : Prop :=
 ∀ (A : Around) (c : Cx) (s : Shared) (Q : Value → Shared → Prop) (E : Value → Shared → Prop) (v₁ v₂ : Value), Room A k → St w sc c s.heap ρ → At s.heap (c.N m₁) v₁ d₁ → At s.heap (c.N m₂) v₂ d₂ →
  (∀ v s', Kps s s' → At s'.heap (c.N md) v d → Q v s') → wpAny (model pr w) A (binaryOp op v₁ v₂) Q E s
noncomputable def Cmp (w : World) (k : Nat) (sc : Scope) (ρ : Rho) (op : CmpOp) (m₁ : Md) (d₁ : D) (m₂ : Md) (d₂ : D) (b : Bool) : Prop :=
 ∀ (A : Around) (c : Cx) (s : Shared) (Q : Value → Shared → Prop) (E : Value → Shared → Prop) (v₁ v₂ : Value), Room A k → St w sc c s.heap ρ → At s.heap (c.N m₁) v₁ d₁ → At s.heap (c.N m₂) v₂ d₂ →
  (∀ s', Kps s s' → Q (.bool b) s') → wpAny (model pr w) A (compareOp op v₁ v₂) Q E s
noncomputable def Sub (w : World) (k : Nat) (sc : Scope) (ρ : Rho) (value slice : PySem.Expr) (m₁ : Md) (d₁ : D) (m₂ : Md) (d₂ : D) (md : Md) (d : D) : Prop :=
 ∀ (A : Around) (c : Cx) (s : Shared) (Q : Value → Shared → Prop) (E : Value → Shared → Prop) (v₁ v₂ : Value), Room A k → St w sc c s.heap ρ → At s.heap (c.N m₁) v₁ d₁ → At s.heap (c.N m₂) v₂ d₂ →
  (∀ v s', Kps s s' → At s'.heap (c.N md) v d → Q v s') → wpAny (model pr w) A (subscriptTail value slice v₁ v₂) Q E s
noncomputable def up (m m' : Md) (d : D) : Bool := m.le m' || d.flat
section
variable {w : World} {k : Nat} {sc : Scope} {ρ : Rho} {md m₁ m₂ : Md} {d d₁ d₂ : D} {e e₁ e₂ : PySem.Expr} {pos : Pos} {c : Cx} {s s' : Shared}
theorem St.kps (S : St w sc c s.heap ρ) (p : Kps s s') : St w sc c s'.heap ρ := S.kp p.kp
theorem At.kps {v : Value} (a : At s.heap (c.N md) v d) (p : Kps s s') : At s'.heap (c.N md) v d := a.kp p.kp.toKpX fun a n => ⟨n.ne, fun z => z⟩
theorem AtL.kps {vs : List Value} {ds : List D} (a : AtL s.heap (c.N md) vs ds) (p : Kps s s') : AtL s'.heap (c.N md) vs ds := a.kp p.kp.toKpX fun a n => ⟨n.ne, fun z => z⟩
theorem At.up {h : Heap} {v : Value} {m m' : Md} (a : At h (c.N m) v d) (u : up m m' d = true) : At h (c.N m') v d := by
 rw [Dom.up, Bool.or_eq_true] at u
 rcases u with u | u
 ·exact a.weak fun _ n => n.le u
 ·exact a.flatten u
theorem AtL.up {h : Heap} {vs : List Value} {ds : List D} {m m' : Md} (a : AtL h (c.N m) vs ds) (u : (m.le m' || ds.all D.flat) = true) : AtL h (c.N m') vs ds := by
 rw [Bool.or_eq_true] at u
 rcases u with u | u
 ·exact a.weak fun _ n => n.le u
 ·exact a.flatten u
theorem St.newN {h : Heap} {a : Addr} (S : St w sc c h ρ) (e : h.get? a = none) (hm : md ≠ .flat) : c.N md a := by
 have hT : a ≠ TF := by
  rintro rfl
  obtain ⟨o, vs, e', _⟩ := tab_here S.base
  exact no e e'
 have nm : ¬ c.mu a := fun q => by obtain ⟨_, ⟨o, e'⟩, _⟩ := S.mutO a q; exact no e e'
 have hf : c.F a := by
  apply S.hF
  cases e' : c.h₀.get? a with
  | none => rfl
  | some o =>
   by_cases m : c.M a
   ·exact absurd (S.hM a m).2 nm
   ·exact no e (S.keep.get a o hT m e')
 have nh : ¬ c.hid a := fun q => by obtain ⟨_, _, _, o, e'⟩ := S.hidO a q; exact no e e'
 have nl : ¬ c.lk a := fun q => by obtain ⟨_, _, _, o, e'⟩ := S.lkO a q; exact no e e'
 have nb : ¬ c.bar a := fun q => q.elim nm fun q => q.elim nh nl
 cases md with
 | flat => exact absurd rfl hm
 | fresh => exact ⟨hT, nb, hf⟩
 | free => exact ⟨hT, nb⟩
 | new => exact ⟨hT, hf⟩
 | ro => exact ⟨hT, nm, nh⟩
 | any => exact hT
theorem Ev.up {m m' : Md} (h : Ev w k sc ρ m e d) (u : up m m' d = true := by rfl) : Ev w k sc ρ m' e d := fun A c s Q E R S q => h A c s Q E R S fun v s' p a => q v s' p (a.up u)
theorem ev_int {i : Int} {n : Nat} : Ev w k sc ρ .flat (.Constant (.int i) n pos) (.int i) := fun A c s Q E R S q => wpAny_Constant_int (q _ _ (.toks s _) (.int _ _))
theorem ev_str {x : Str} {n : Nat} : Ev w k sc ρ .flat (.Constant (.str x) n pos) (.str x) := fun A c s Q E R S q => wpAny_Constant_str (q _ _ (.toks s _) (.str _ _))
theorem ev_none {n : Nat} : Ev w k sc ρ .flat (.Constant .none n pos) .none := fun A c s Q E R S q => wpAny_Constant_none (q _ _ (.refl s) .none)
theorem ev_bool {b : Bool} {n : Nat} : Ev w k sc ρ .flat (.Constant (.bool b) n pos) (.bool b) := fun A c s Q E R S q => wpAny_Constant_bool (q _ _ (.refl s) (.bool b))
theorem ev_neg {i : Int} {m : Md} (h : Ev w k sc ρ m e (.int i)) : Ev w k sc ρ .flat (.UnaryOp .USub e pos) (.int (-i)) := fun A c s Q E R S q =>
 wpAny_UnaryOp (h A c s _ _ R S fun v s' p a => by refine a.cI fun _ => ?_; exact PySem.P.neg_int (q _ _ (p.trans (.toks s' _)) (.int _ _)))
theorem look {A : Around} {x : Str} {v : Value} {Q : Value → Shared → Prop} {E : Value → Shared → Prop} (S : St w sc c s.heap ρ) (hx : c.env.kindOf x = some .local ∨ c.env.kindOf x = some .cell ∨ c.env.kindOf x = some .free) (hf : c.f x = some v) (h : Q v s)
  (hd : (x == ("__debug__" : Str)) = false) (hc : (x == ("__classdict__" : Str)) = false) : wpAny (model pr w) A (eval (.Name x pos) c.env) Q E s := by
 refine wpAny_Name ?_ hd
 have hk : c.env.scope.kind = .function := S.scp ▸ S.fn
 rcases hx with hx | hx | hx
 ·obtain ⟨m, n, e⟩ := S.vars.ns; exact wpAny_loadName_local hk hx n ((e x hx).trans hf) h
 ·obtain ⟨a, e, _, ic⟩ := S.vars.cel x (.inl hx); exact wpAny_loadName_cell hk hx e (hf ▸ ic) h
 ·obtain ⟨a, e, _, ic⟩ := S.vars.cel x (.inr hx); exact wpAny_loadName_free hk hx e (hf ▸ ic) h hc
noncomputable def isVar (sc : Scope) (x : Str) : Bool := (match sc.names.lookup x with
 | some .local => true
 | some .cell => true
 | some .free => true
 | _ => false) && !(x == ("__debug__" : Str)) && !(x == ("__classdict__" : Str))
noncomputable def isGlob (sc : Scope) (x : Str) : Bool := (match sc.names.lookup x with
 | some .globalImplicit => true
 | _ => false) && !(x == ("__debug__" : Str))
theorem isVar.kind {x : Str} (S : St w sc c s.heap ρ) (hv : isVar sc x = true) : (c.env.kindOf x = some .local ∨ c.env.kindOf x = some .cell ∨ c.env.kindOf x = some .free) ∧ (x == ("__debug__" : Str)) = false ∧ (x == ("__classdict__" : Str)) = false := by
 have e : c.env.kindOf x = sc.names.lookup x := by show c.env.scope.names.lookup x = _; rw [S.scp]
 unfold isVar at hv
 simp only [Bool.and_eq_true, Bool.not_eq_true'] at hv
 refine ⟨?_, hv.1.2, hv.2⟩
 rw [e]
 have h1 := hv.1.1
 split at h1 <;> simp_all
theorem ev_dat {x : Str} {fr : Bool} (hx : (x, .dat fr d) ∈ ρ) (hv : isVar sc x = true := by kernel_rfl) : Ev w k sc ρ (Md.of fr) (.Name x pos) d := fun A c s Q E R S q => by
 obtain ⟨v, l, a⟩ := S.vals x _ hx
 obtain ⟨h1, h2, h3⟩ := isVar.kind S hv
 exact look S h1 l (q v s (.refl s) a) h2 h3
theorem ev_own {x : Str} {ds : List D} (hx : (x, .own false ds) ∈ ρ) (hv : isVar sc x = true := by kernel_rfl) : Ev w k sc ρ .any (.Name x pos) (.lst ds) := fun A c s Q E R S q => by
 obtain ⟨v, l, o, m, vs, p, a⟩ := S.vals x _ hx
 obtain ⟨h1, h2, h3⟩ := isVar.kind S hv
 cases (show v = .ref (c.ad x) from o)
 exact look S h1 l (q _ s (.refl s) (.lst (S.mutO _ m.1).1 p.isList (a.weak fun _ n => n.1))) h2 h3
theorem ev_ro {x : Str} (hx : (x, .ro d) ∈ ρ) (hv : isVar sc x = true := by kernel_rfl) : Ev w k sc ρ .ro (.Name x pos) d := fun A c s Q E R S q => by
 obtain ⟨v, l, a⟩ := S.vals x _ hx
 obtain ⟨h1, h2, h3⟩ := isVar.kind S hv
 exact look S h1 l (q v s (.refl s) a) h2 h3
theorem ev_val {x : Str} {v : Value} (hx : (x, .val v d) ∈ ρ) (hv : isVar sc x = true := by kernel_rfl) : Ev w k sc ρ .free (.Name x pos) d := fun A c s Q E R S q => by
 obtain ⟨l, a⟩ := S.vals x _ hx
 obtain ⟨h1, h2, h3⟩ := isVar.kind S hv
 exact look S h1 l (q v s (.refl s) a) h2 h3
theorem evv_val {x : Str} {v : Value} (hx : (x, .val v d) ∈ ρ) (hv : isVar sc x = true := by kernel_rfl) : EvV w k sc ρ (.Name x pos) v := fun A c s Q E R S q => by
 obtain ⟨l, _⟩ := S.vals x _ hx
 obtain ⟨h1, h2, h3⟩ := isVar.kind S hv
 exact look S h1 l q h2 h3
theorem says_ns {h : Heap} (S : SaysT w h) : h.Ns mainGlobals ((H1 w.params).nsMap mainGlobals) :=
 (Heap.Ns.of_isNs (show (H1 w.params).isNs mainGlobals = true by kernel_rfl)).at' fun o eo => S.get _ o (by decide) (fun z => z) eo
theorem says_bs {h : Heap} (S : SaysT w h) : h.Ns builtinsNs ((H1 w.params).nsMap builtinsNs) :=
 (Heap.Ns.of_isNs (show (H1 w.params).isNs builtinsNs = true by kernel_rfl)).at' fun o eo => S.get _ o (by decide) (fun z => z) eo
theorem evv_glob {x : Str} {v : Value} (hg : isGlob sc x = true := by kernel_rfl) (hx : (H1 w.params).nsMap mainGlobals x = some v := by kernel_rfl) : EvV w k sc ρ (.Name x pos) v := fun A c s Q E R S q => by
 have e : c.env.kindOf x = sc.names.lookup x := by show c.env.scope.names.lookup x = _; rw [S.scp]
 unfold isGlob at hg
 simp only [Bool.and_eq_true, Bool.not_eq_true'] at hg
 refine wpAny_Name ?_ hg.2
 have hk : c.env.scope.kind = .function := S.scp ▸ S.fn
 refine ks_loadName_global hk (by rw [e]; have h1 := hg.1; split at h1 <;> simp_all) ?_
 exact loadGlobal_global (by rw [S.glo]; exact says_ns S.base) hx q
theorem evv_builtin {x : Str} {v : Value} (hg : isGlob sc x = true := by kernel_rfl) (hx : (H1 w.params).nsMap mainGlobals x = none := by kernel_rfl) (hb : (H1 w.params).nsMap builtinsNs x = some v := by kernel_rfl) : EvV w k sc ρ (.Name x pos) v := fun A c s Q E R S q => by
 have e : c.env.kindOf x = sc.names.lookup x := by show c.env.scope.names.lookup x = _; rw [S.scp]
 unfold isGlob at hg
 simp only [Bool.and_eq_true, Bool.not_eq_true'] at hg
 refine wpAny_Name ?_ hg.2
 have hk : c.env.scope.kind = .function := S.scp ▸ S.fn
 refine ks_loadName_global hk (by rw [e]; have h1 := hg.1; split at h1 <;> simp_all) ?_
 exact loadGlobal_builtin (by rw [S.glo]; exact says_ns S.base) hx (by rw [S.blt]; exact says_bs S.base) hb q
theorem ev_bin {op : Operator} (ha : Ev w k sc ρ m₁ e₁ d₁) (hb : Ev w k sc ρ m₂ e₂ d₂) (h : Bin w k sc ρ op m₁ d₁ m₂ d₂ md d) : Ev w k sc ρ md (.BinOp e₁ op e₂ pos) d := fun A c s Q E R S q =>
 wpAny_BinOp (ha A c s _ _ R S fun v s₁ p₁ a₁ => hb A c s₁ _ _ R (S.kps p₁) fun v₂ s₂ p₂ a₂ => h A c s₂ _ _ v v₂ R (S.kps (p₁.trans p₂)) (a₁.kps p₂) a₂ fun u s₃ p₃ a₃ => q u s₃ ((p₁.trans p₂).trans p₃) a₃)
theorem ev_cmp {op : CmpOp} {b : Bool} (ha : Ev w k sc ρ m₁ e₁ d₁) (hb : Ev w k sc ρ m₂ e₂ d₂) (h : Cmp w k sc ρ op m₁ d₁ m₂ d₂ b) (hm : behindInMarks op e₂ = false := by with_unfolding_all rfl) : Ev w k sc ρ .flat (.Compare e₁ [op] [e₂] pos) (.bool b) := fun A c s Q E R S q =>
 wpAny_Compare1 (ha A c s _ _ R S fun v s₁ p₁ a₁ => hb A c s₁ _ _ R (S.kps p₁) fun v₂ s₂ p₂ a₂ => h A c s₂ _ _ v v₂ R (S.kps (p₁.trans p₂)) (a₁.kps p₂) a₂ fun s₃ p₃ => q _ s₃ ((p₁.trans p₂).trans p₃) (.bool b)) hm
theorem ts_cmp {op : CmpOp} {b : Bool} (ha : Ev w k sc ρ m₁ e₁ d₁) (hb : Ev w k sc ρ m₂ e₂ d₂) (h : Cmp w k sc ρ op m₁ d₁ m₂ d₂ b) (hm : behindInMarks op e₂ = false := by with_unfolding_all rfl) : Ts w k sc ρ (.Compare e₁ [op] [e₂] pos) b := fun A c s Q E R S q =>
 wpAny_isTrue_Compare1 (ha A c s _ _ R S fun v s₁ p₁ a₁ => hb A c s₁ _ _ R (S.kps p₁) fun v₂ s₂ p₂ a₂ => h A c s₂ _ _ v v₂ R (S.kps (p₁.trans p₂)) (a₁.kps p₂) a₂ fun s₃ p₃ => wpAny_truthy_bool (q s₃ ((p₁.trans p₂).trans p₃))) hm
theorem ts_not {b : Bool} (h : Ts w k sc ρ e b) : Ts w k sc ρ (.UnaryOp .Not e pos) (!b) := fun A c s Q E R S q => isTrue_not (h A c s _ _ R S q)
theorem ts_bool {b : Bool} (h : Ev w k sc ρ md e (.bool b)) (he : ∀ env (whole : Sem Value), isTrue e env whole = (do let v ← whole; standAt e.pos; holding [v] (truthy v)) := by intro _ _; rfl) : Ts w k sc ρ e b := fun A c s Q E R S q =>
 isTrue_plain (h A c s _ _ R S fun v s' p a => by refine a.cB ?_; exact wpAny_truthy_bool (q s' p)) (he _ _)
theorem allT_nil {op : BoolOp} : AllT w k sc ρ op [] (op == .And) := fun A c s Q E R S q => by
 show wpAny _ _ (pure (op == .And)) _ _ _
 exact wpAny_pure (q s (.refl s))
theorem allT_and {es : List PySem.Expr} {b b' : Bool} (h : Ts w k sc ρ e b) (h' : b = true → AllT w k sc ρ .And es b') : AllT w k sc ρ .And (e :: es) (b && b') := fun A c s Q E R S q => by
 refine wpAny_allTrue_And_cons (h A c s _ _ R S fun s₁ p₁ => ?_)
 cases b with
 | false => exact q s₁ p₁
 | true => exact h' rfl A c s₁ _ _ R (S.kps p₁) fun s₂ p₂ => q s₂ (p₁.trans p₂)
theorem allT_or {es : List PySem.Expr} {b b' : Bool} (h : Ts w k sc ρ e b) (h' : b = false → AllT w k sc ρ .Or es b') : AllT w k sc ρ .Or (e :: es) (b || b') := fun A c s Q E R S q => by
 refine wpAny_allTrue_Or_cons (h A c s _ _ R S fun s₁ p₁ => ?_)
 cases b with
 | true => exact q s₁ p₁
 | false => exact h' rfl A c s₁ _ _ R (S.kps p₁) fun s₂ p₂ => q s₂ (p₁.trans p₂)
theorem ts_boolop {op : BoolOp} {es : List PySem.Expr} {b : Bool} (h : AllT w k sc ρ op es b) : Ts w k sc ρ (.BoolOp op es pos) b := fun A c s Q E R S q => wpAny_isTrue_BoolOp (h A c s _ _ R S q)
theorem ev_ifexp {t : PySem.Expr} {b : Bool} {d' : D} (ht : Ts w k sc ρ t b) (h : b = true → Ev w k sc ρ md e₁ d) (h' : b = false → Ev w k sc ρ md e₂ d') : Ev w k sc ρ md (.IfExp t e₁ e₂ pos) (bif b then d else d') := fun A c s Q E R S q =>
 wpAny_IfExp (ht A c s _ _ R S fun s₁ p₁ => by
  cases b with
  | true => exact h rfl A c s₁ _ _ R (S.kps p₁) fun v s₂ p₂ a => q v s₂ (p₁.trans p₂) a
  | false => exact h' rfl A c s₁ _ _ R (S.kps p₁) fun v s₂ p₂ a => q v s₂ (p₁.trans p₂) a)
theorem ev_sub (ha : Ev w k sc ρ m₁ e₁ d₁) (hb : Ev w k sc ρ m₂ e₂ d₂) (h : Sub w k sc ρ e₁ e₂ m₁ d₁ m₂ d₂ md d) : Ev w k sc ρ md (.Subscript e₁ e₂ pos) d := fun A c s Q E R S q =>
 Subscript_ (ha A c s _ _ R S fun v s₁ p₁ a₁ => hb A c s₁ _ _ R (S.kps p₁) fun v₂ s₂ p₂ a₂ => h A c s₂ _ _ v v₂ R (S.kps (p₁.trans p₂)) (a₁.kps p₂) a₂ fun u s₃ p₃ a₃ => q u s₃ ((p₁.trans p₂).trans p₃) a₃)
noncomputable def plainE : PySem.Expr → Bool
 | .Starred _ _ => false
 | _ => true
theorem starEach_plain {env : Env} {rest : List PySem.Expr} (h : plainE e = true) : starEach (e :: rest) env = (false, eval e env) :: starEach rest env := by
 cases e <;> first | rfl | cases h
theorem evl_nil : EvL w k sc ρ md [] [] := fun A pos c s Q E R S q => wpAny_items_nil (q _ _ (.refl s) .nil)
theorem evl_cons {es : List PySem.Expr} {ds : List D} {m : Md} (h : Ev w k sc ρ m e d) (h' : EvL w k sc ρ md es ds) (u : Dom.up m md d = true := by rfl) (hp : plainE e = true := by rfl) : EvL w k sc ρ md (e :: es) (d :: ds) := fun A pos c s Q E R S q =>
 wpAny_items_cons (h A c s _ _ R S fun v s₁ p₁ a₁ => h' A pos c s₁ _ _ R (S.kps p₁) fun vs s₂ p₂ a₂ => q _ s₂ (p₁.trans p₂) (.cons ((a₁.up u).kps p₂) a₂)) (starEach_plain hp)
theorem ev_tuple {es : List PySem.Expr} {ds : List D} {n : Nat} (h : EvL w k sc ρ md es ds) (hl : ds.length ≤ sizeLine := by exact Nat.le_of_ble_eq_true rfl) (hm : md ≠ .flat := by decide) : Ev w k sc ρ md (.Tuple es n pos) (.tup ds) := fun A c s Q E R S q =>
 wpAny_Tuple (h A pos c s _ _ R S fun vs s₁ p₁ a₁ => ⟨by rw [a₁.length]; exact hl, q _ _ (p₁.trans (.push s₁ _ s₁.toks)) (.tup ((S.kps p₁).newN (get_end _) hm) ⟨_, Heap.get?_push_size _ rfl, rfl, 0, rfl⟩ (a₁.kps (.push s₁ _ s₁.toks)))⟩)
theorem ev_list {es : List PySem.Expr} {ds : List D} (h : EvL w k sc ρ md es ds) (hl : ds.length ≤ sizeLine := by exact Nat.le_of_ble_eq_true rfl) (hm : md ≠ .flat := by decide) : Ev w k sc ρ md (.List es pos) (.lst ds) := fun A c s Q E R S q =>
 wpAny_List (h A pos c s _ _ R S fun vs s₁ p₁ a₁ => ⟨by rw [a₁.length]; exact hl, q _ _ (p₁.trans (.push s₁ _ s₁.toks)) (.lst ((S.kps p₁).newN (get_end _) hm) ⟨_, Heap.get?_push_size _ rfl, rfl, 0, rfl⟩ (a₁.kps (.push s₁ _ s₁.toks)))⟩)
end
section
variable {w : World} {k : Nat} {sc : Scope} {ρ : Rho} {md m₁ m₂ : Md} {d d₁ d₂ : D} {e e₁ e₂ : PySem.Expr} {pos : Pos} {a b : Int} {x y : Str}
theorem bin_add : Bin w k sc ρ .Add m₁ (.int a) m₂ (.int b) .flat (.int (a + b)) := fun A c s Q E v₁ v₂ R S h₁ h₂ q => by
 refine h₁.cI fun _ => ?_; refine h₂.cI fun _ => ?_; exact PyProof.Rows.add_int (q _ _ (.toks s _) (.int _ _))
theorem bin_subI : Bin w k sc ρ .Sub m₁ (.int a) m₂ (.int b) .flat (.int (a - b)) := fun A c s Q E v₁ v₂ R S h₁ h₂ q => by
 refine h₁.cI fun _ => ?_; refine h₂.cI fun _ => ?_; exact PyProof.Rows.sub_int (q _ _ (.toks s _) (.int _ _))
theorem bin_mod (hb : 0 < b) : Bin w k sc ρ .Mod m₁ (.int a) m₂ (.int b) .flat (.int (a % b)) := fun A c s Q E v₁ v₂ R S h₁ h₂ q => by
 refine h₁.cI fun _ => ?_; refine h₂.cI fun _ => ?_
 refine mod_int_or R.hh (fun z => by lia) fun _ => ?_
 rw [Int.fmod_eq_emod_of_nonneg a (Int.le_of_lt hb)]
 exact q _ _ (.toks s _) (.int _ _)
theorem bin_fdiv (hb : 0 < b) (hb' : b < 1073741824) : Bin w k sc ρ .FloorDiv m₁ (.int a) m₂ (.int b) .flat (.int (a / b)) := fun A c s Q E v₁ v₂ R S h₁ h₂ q => by
 refine h₁.cI fun _ => ?_; refine h₂.cI fun _ => ?_
 refine floordiv_int_or R.hh (fun z => by lia) (fun _ => ?_) (fun _ => .inl (PyProof.noPylong_small (by lia)))
 rw [Int.fdiv_eq_ediv_of_nonneg a (Int.le_of_lt hb)]
 exact q _ _ (.toks s _) (.int _ _)
theorem cmp_ltI : Cmp w k sc ρ .Lt m₁ (.int a) m₂ (.int b) (decide (a < b)) := fun A c s Q E v₁ v₂ R S h₁ h₂ q => by
 refine h₁.cI fun _ => ?_; refine h₂.cI fun _ => ?_; exact P.lt_int (q s (.refl s))
theorem cmp_gtI : Cmp w k sc ρ .Gt m₁ (.int a) m₂ (.int b) (decide (a > b)) := fun A c s Q E v₁ v₂ R S h₁ h₂ q => by
 refine h₁.cI fun _ => ?_; refine h₂.cI fun _ => ?_; exact P.gt_int (q s (.refl s))
theorem cmp_geI : Cmp w k sc ρ .GtE m₁ (.int a) m₂ (.int b) (decide (a ≥ b)) := fun A c s Q E v₁ v₂ R S h₁ h₂ q => by
 refine h₁.cI fun _ => ?_; refine h₂.cI fun _ => ?_; exact P.ge_int (q s (.refl s))
theorem cmp_eqI : Cmp w k sc ρ .Eq m₁ (.int a) m₂ (.int b) (a == b) := fun A c s Q E v₁ v₂ R S h₁ h₂ q => by
 refine h₁.cI fun _ => ?_; refine h₂.cI fun _ => ?_; exact P.eq_int (q s (.refl s))
theorem cmp_neI : Cmp w k sc ρ .NotEq m₁ (.int a) m₂ (.int b) (a != b) := fun A c s Q E v₁ v₂ R S h₁ h₂ q => by
 refine h₁.cI fun _ => ?_; refine h₂.cI fun _ => ?_; exact P.ne_int (q s (.refl s))
theorem cmp_ltB {p q : Bool} : Cmp w k sc ρ .Lt m₁ (.bool p) m₂ (.bool q) (!p && q) := fun A c s Q E v₁ v₂ R S h₁ h₂ z => by
 refine h₁.cB ?_; refine h₂.cB ?_
 refine PyProof.Rows.lt_bool ?_
 have : decide (b2i p < b2i q) = (!p && q) := by cases p <;> cases q <;> rfl
 rw [this]; exact z s (.refl s)
theorem bin_addS (hz : x.length + y.length ≤ sizeLine) : Bin w k sc ρ .Add m₁ (.str x) m₂ (.str y) .flat (.str (x ++ y)) := fun A c s Q E v₁ v₂ R S h₁ h₂ q => by
 refine h₁.cS fun _ => ?_; refine h₂.cS fun _ => ?_; exact PyProof.Rows.add_str (fun t tk => q _ _ (.toks s tk) (.str _ _)) hz
theorem cmp_eqS : Cmp w k sc ρ .Eq m₁ (.str x) m₂ (.str y) (x == y) := fun A c s Q E v₁ v₂ R S h₁ h₂ q => by
 refine h₁.cS fun _ => ?_; refine h₂.cS fun _ => ?_; exact PyProof.Rows.eq_str (q s (.refl s))
theorem cmp_neS : Cmp w k sc ρ .NotEq m₁ (.str x) m₂ (.str y) (x != y) := fun A c s Q E v₁ v₂ R S h₁ h₂ q => by
 refine h₁.cS fun _ => ?_; refine h₂.cS fun _ => ?_; exact PyProof.Rows.ne_str (q s (.refl s))
theorem cmp_ltS : Cmp w k sc ρ .Lt m₁ (.str x) m₂ (.str y) (decide (x.cps.toList < y.cps.toList)) := fun A c s Q E v₁ v₂ R S h₁ h₂ q => by
 refine h₁.cS fun _ => ?_; refine h₂.cS fun _ => ?_; exact PyProof.Rows.lt_str (q s (.refl s))
theorem cmp_isN : Cmp w k sc ρ .Is m₁ .none m₂ .none true := fun A c s Q E v₁ v₂ R S h₁ h₂ q => by
 refine h₁.cN ?_; refine h₂.cN ?_; exact wpAny_is_self rfl (q s (.refl s))
theorem cmp_isNot : Cmp w k sc ρ .IsNot m₁ .none m₂ .none false := fun A c s Q E v₁ v₂ R S h₁ h₂ q => by
 refine h₁.cN ?_; refine h₂.cN ?_; exact wpAny_isNot_self rfl (q s (.refl s))
noncomputable def D.isN : D → Bool
 | .none => true
 | _ => false
theorem cmp_is_no (h : d.isN = false) : Cmp w k sc ρ .Is m₁ d m₂ .none false := fun A c s Q E v₁ v₂ R S h₁ h₂ q => by
 refine h₂.cN ?_
 cases h₁ <;> first | (exfalso; simp [D.isN] at h; done) | exact wpAny_is_other rfl (fun z => nomatch z) (q s (.refl s))
theorem cmp_isNot_no (h : d.isN = false) : Cmp w k sc ρ .IsNot m₁ d m₂ .none true := fun A c s Q E v₁ v₂ R S h₁ h₂ q => by
 refine h₂.cN ?_
 cases h₁ <;> first | (exfalso; simp [D.isN] at h; done) | exact wpAny_isNot_other rfl (fun z => nomatch z) (q s (.refl s))
theorem atL_str {h : Heap} {N : Addr → Prop} {vs : List Value} {l : List Str} (h₁ : AtL h N vs (l.map D.str)) : ∀ v ∈ vs, ∃ y t, v = .str y t := by
 induction l generalizing vs with
 | nil => cases h₁; intro v q; cases q
 | cons z l ih =>
  cases h₁ with
  | cons a r =>
   refine a.cS fun _ => ?_
   intro v q
   cases q with
   | head => exact ⟨_, _, rfl⟩
   | tail _ q => exact ih r v q
theorem atL_int {h : Heap} {N : Addr → Prop} {vs : List Value} {l : List Int} (h₁ : AtL h N vs (l.map D.int)) : ∀ v ∈ vs, ∃ y t, v = .int y t := by
 induction l generalizing vs with
 | nil => cases h₁; intro v q; cases q
 | cons z l ih =>
  cases h₁ with
  | cons a r =>
   refine a.cI fun _ => ?_
   intro v q
   cases q with
   | head => exact ⟨_, _, rfl⟩
   | tail _ q => exact ih r v q
noncomputable def isS (x : Str) : Value → Bool
 | .str y _ => y == x
 | _ => false
noncomputable def isI (x : Int) : Value → Bool
 | .int y _ => y == x
 | _ => false
theorem any_isS {h : Heap} {N : Addr → Prop} {vs : List Value} {l : List Str} (h₁ : AtL h N vs (l.map D.str)) : vs.toArray.any (isS x) = l.contains x := by
 rw [List.any_toArray]
 induction l generalizing vs with
 | nil => cases h₁; rfl
 | cons z l ih =>
  cases h₁ with
  | cons a r => refine a.cS fun _ => ?_; rw [List.any_cons, ih r, List.contains_cons]; simp only [isS]; rw [Bool.beq_comm]
theorem any_isI {h : Heap} {N : Addr → Prop} {vs : List Value} {l : List Int} (h₁ : AtL h N vs (l.map D.int)) : vs.toArray.any (isI a) = l.contains a := by
 rw [List.any_toArray]
 induction l generalizing vs with
 | nil => cases h₁; rfl
 | cons z l ih =>
  cases h₁ with
  | cons u r => refine u.cI fun _ => ?_; rw [List.any_cons, ih r, List.contains_cons]; simp only [isI]; rw [Bool.beq_comm]
theorem cmp_inS {l : List Str} : Cmp w k sc ρ .In m₁ (.str x) m₂ (.lst (l.map .str)) (l.contains x) := fun A c s Q E v₁ v₂ R S h₁ h₂ q => by
 refine h₁.cS fun _ => ?_
 refine h₂.cL fun _ _ n i r => ?_
 refine SeqAt.in_listAt (isS x) i (fun v hv => ?_) (by rw [any_isS r]; exact q s (.refl s))
 obtain ⟨y, t, rfl⟩ := atL_str r v (by simpa using hv)
 exact (PyProof.Rows.eqGives_str _ _ _ _).at _ _
theorem cmp_notInS {l : List Str} : Cmp w k sc ρ .NotIn m₁ (.str x) m₂ (.lst (l.map .str)) (!l.contains x) := fun A c s Q E v₁ v₂ R S h₁ h₂ q => by
 refine h₁.cS fun _ => ?_
 refine h₂.cL fun _ _ n i r => ?_
 refine SeqAt.notIn_listAt (isS x) i (fun v hv => ?_) (by rw [any_isS r]; exact q s (.refl s))
 obtain ⟨y, t, rfl⟩ := atL_str r v (by simpa using hv)
 exact (PyProof.Rows.eqGives_str _ _ _ _).at _ _
theorem cmp_inI {l : List Int} : Cmp w k sc ρ .In m₁ (.int a) m₂ (.lst (l.map .int)) (l.contains a) := fun A c s Q E v₁ v₂ R S h₁ h₂ q => by
 refine h₁.cI fun _ => ?_
 refine h₂.cL fun _ _ n i r => ?_
 refine SeqAt.in_listAt (isI a) i (fun v hv => ?_) (by rw [any_isI r]; exact q s (.refl s))
 obtain ⟨y, t, rfl⟩ := atL_int r v (by simpa using hv)
 exact (MeetsSeq.EqGives.int _ _ _ _).at _ _
theorem cmp_notInI {l : List Int} : Cmp w k sc ρ .NotIn m₁ (.int a) m₂ (.lst (l.map .int)) (!l.contains a) := fun A c s Q E v₁ v₂ R S h₁ h₂ q => by
 refine h₁.cI fun _ => ?_
 refine h₂.cL fun _ _ n i r => ?_
 refine SeqAt.notIn_listAt (isI a) i (fun v hv => ?_) (by rw [any_isI r]; exact q s (.refl s))
 obtain ⟨y, t, rfl⟩ := atL_int r v (by simpa using hv)
 exact (MeetsSeq.EqGives.int _ _ _ _).at _ _
end
theorem ltg_str (base : PySem.Expr) (x : Str) (t : Tok) (r : Value) : letTemporaryGo base (.str x t) r = pure () := by cases base <;> rfl
section
variable {w : World} {k : Nat} {sc : Scope} {ρ : Rho} {md m₁ m₂ : Md} {d d₁ d₂ : D} {e e₁ e₂ : PySem.Expr} {pos : Pos} {a b : Int} {x y : Str} {ds ds' : List D} {c : Cx} {s s' : Shared}
noncomputable abbrev PlainSub (slice : PySem.Expr) : Prop := ∀ o i, subscripted slice false o i = operate [o, i] (getItem o i)
theorem sub_list {value slice : PySem.Expr} (h0 : 0 ≤ a) (h1 : a < 2 ^ 63) (hd : ds[a.toNat]? = some d) (hs : PlainSub slice := by intro _ _; rfl) : Sub w k sc ρ value slice m₁ (.lst ds) m₂ (.int a) m₁ d := fun A c s Q E v₁ v₂ R S h₁ h₂ q => by
 refine h₂.cI fun _ => ?_
 refine h₁.cL fun _ _ n i r => ?_
 obtain ⟨v, hv, av⟩ := r.get hd
 exact tail_any i.typeIs PySem.slot_list_getitem.lookup (wpAny_getItem_list i h0 h1 (by rw [List.getElem?_toArray]; exact hv) (q v s (.refl s) av)) (hs _ _)
theorem sub_last {value slice : PySem.Expr} (hd : ds.getLast? = some d) (hs : PlainSub slice := by intro _ _; rfl) : Sub w k sc ρ value slice m₁ (.lst ds) m₂ (.int (-1)) m₁ d := fun A c s Q E v₁ v₂ R S h₁ h₂ q => by
 refine h₂.cI fun _ => ?_
 refine h₁.cL fun _ vs n i r => ?_
 have hl : 0 < ds.length := by cases ds with
  | nil => simp at hd
  | cons => simp
 rw [List.getLast?_eq_getElem?] at hd
 obtain ⟨v, hv, av⟩ := r.get hd
 refine tail_any i.typeIs PySem.slot_list_getitem.lookup (kde_getNeg i (by decide) (by decide) (j := ds.length - 1) ?_ hv (q v s (.refl s) av)) (hs _ _)
 rw [r.length]
 unfold seqIndex?
 simp only [show (-1 : Int) < 0 from by decide, if_true]
 rw [if_pos (by simp only [Bool.and_eq_true, decide_eq_true_eq]; lia)]
 congr 1; lia
theorem sub_tup {value slice : PySem.Expr} (h0 : 0 ≤ a) (h1 : a < 2 ^ 63) (hd : ds[a.toNat]? = some d) (hs : PlainSub slice := by intro _ _; rfl) : Sub w k sc ρ value slice m₁ (.tup ds) m₂ (.int a) m₁ d := fun A c s Q E v₁ v₂ R S h₁ h₂ q => by
 refine h₂.cI fun _ => ?_
 refine h₁.cT fun _ vs n i r => ?_
 obtain ⟨v, hv, av⟩ := r.get hd
 have i' : IsTup s.heap _ vs.toArray := i
 refine tail_any i'.typeIs PyProof.Rows.slot_tuple_getitem.lookup (PyProof.Rows.getItem_tuple i' (by lia) h1 (j := a.toNat) ?_ (by rw [List.getElem?_toArray]; exact hv) (q v s (.refl s) av)) (hs _ _)
 have hl : a.toNat < vs.length := by
  rw [List.getElem?_eq_some_iff] at hv
  exact hv.1
 unfold seqIndex?
 simp only [show ¬ a < 0 from by lia, if_false]
 rw [if_pos (by simp only [Bool.and_eq_true, decide_eq_true_eq, List.size_toArray]; lia)]
noncomputable def EvO (w : World) (k : Nat) (sc : Scope) (ρ : Rho) (o : Option PySem.Expr) (v : Option Int) : Prop :=
 ∀ (A : Around) (c : Cx) (s : Shared) (Q : Value → Shared → Prop) (E : Value → Shared → Prop), Room A k → St w sc c s.heap ρ → (∀ u s', Kps s s' → IsPart u v → Q u s') → wpAny (model pr w) A (evalPart o c.env) Q E s
theorem evo_none : EvO w k sc ρ none none := fun A c s Q E R S q => wpAny_pure (q _ _ (.refl s) .none)
theorem evo_some (h : Ev w k sc ρ md e (.int a)) : EvO w k sc ρ (some e) (some a) := fun A c s Q E R S q => by
 show wpAny _ _ (eval e c.env) _ _ _
 exact h A c s _ _ R S fun v s' p u => by refine u.cI fun _ => ?_; exact q _ s' p (.int _ _)
noncomputable def pick {α : Type} (l : List α) (lo hi : Option Int) : List α := (l.drop (kms_lo lo l.length)).take (kms_hi hi l.length - kms_lo lo l.length)
theorem ev_sliceL {lo hi : Option PySem.Expr} {vl vu : Option Int} {p₁ : Pos} (h : Ev w k sc ρ m₁ e (.lst ds)) (hl : EvO w k sc ρ lo vl) (hu : EvO w k sc ρ hi vu) (hz : ds.length ≤ sizeLine) (hm : m₁.le md = true := by rfl) (hn : md ≠ .flat := by decide) :
  Ev w k sc ρ md (.Subscript e (.Slice lo hi none p₁) pos) (.lst (pick ds vl vu)) := fun A c s Q E R S q =>
 Subscript_ (h A c s _ _ R S fun v s₁ p₁ a₁ => wpAny_Slice (hl A c s₁ _ _ R (S.kps p₁) fun u₁ s₂ p₂ i₁ => hu A c s₂ _ _ R (S.kps (p₁.trans p₂)) fun u₂ s₃ p₃ i₂ => wpAny_pure (by
  have P := p₁.trans (p₂.trans p₃)
  have P' := P.trans (.push s₃ { cls := .type "slice", data := .fields #[u₁, u₂, .none] } s₃.toks)
  have a₃ := a₁.kps ((p₂.trans p₃).trans (.push s₃ { cls := .type "slice", data := .fields #[u₁, u₂, .none] } s₃.toks))
  have S₃ := S.kps P'
  refine a₃.cL fun _ vs n i r => ?_
  refine tail_any i.typeIs PySem.slot_list_getitem.lookup (wpAny_getItem_list_slice i (Heap.IsSliceOf.new _ _ _ _) i₁ i₂ .none (by intro z; cases z) ?_ (by rw [List.size_toArray, r.length]; exact hz)) rfl
  rw [kmk_pick_nat _ (kms_bounds vl vu vs.toArray.size)]
  refine q _ _ (P'.trans (.push _ _ _)) ?_
  have r' := (((r.drop (kms_lo vl vs.length)).take (kms_hi vu vs.length - kms_lo vl vs.length)).kps (.push { s₃ with heap := s₃.heap.push { cls := .type "slice", data := .fields #[u₁, u₂, .none] } } { cls := .type "list", data := .seq ((vs.drop (kms_lo vl vs.length)).take (kms_hi vu vs.length - kms_lo vl vs.length)).toArray } s₃.toks)).weak fun _ n => Cx.N.le hm n
  refine .lst (S₃.newN (get_end _) hn) ⟨_, Heap.get?_push_size _ rfl, rfl, 0, rfl⟩ ?_
  unfold pick
  rw [← r.length]
  exact r')))
theorem ev_sliceS {lo hi : Option PySem.Expr} {vl vu : Option Int} {p₁ : Pos} (h : Ev w k sc ρ m₁ e (.str x)) (hl : EvO w k sc ρ lo vl) (hu : EvO w k sc ρ hi vu) (hz : x.length ≤ sizeLine) :
  Ev w k sc ρ .flat (.Subscript e (.Slice lo hi none p₁) pos) (.str (PySem.Txt.slice x vl vu)) := fun A c s Q E R S q =>
 Subscript_ (h A c s _ _ R S fun v s₁ p₁ a₁ => wpAny_Slice (hl A c s₁ _ _ R (S.kps p₁) fun u₁ s₂ p₂ i₁ => hu A c s₂ _ _ R (S.kps (p₁.trans p₂)) fun u₂ s₃ p₃ i₂ => wpAny_pure (by
  have P := p₁.trans (p₂.trans p₃)
  have hk : KeptH (fun h => Kp s.heap h) := fun h o hp => hp.trans (Kp.of fun b o' e => Heap.get?_push_of_some _ e)
  have P' := P.kp
  have fin : ∀ h' t' tk, Kp s.heap h' → Q (.str (PySem.Txt.slice x vl vu) t') { s₃ with heap := h', toks := tk } := fun h' t' tk kp => by
   refine q _ _ ?_ (.str _ _)
   obtain ⟨h₃, t₃, rfl, _⟩ := P
   exact ⟨h', tk, rfl, kp⟩
  refine a₁.cS fun _ => ?_
  cases i₁ <;> cases i₂
  ·exact tail_of_ItemOn (SBH.sliceItem_nn hk P' fin hz) rfl (fun _ => ltg_str _ _ _ _)
  ·exact tail_of_ItemOn (SBH.sliceItem_ns hk P' fin hz) rfl (fun _ => ltg_str _ _ _ _)
  ·exact tail_of_ItemOn (SBH.sliceItem_sn hk P' fin hz) rfl (fun _ => ltg_str _ _ _ _)
  ·exact tail_of_ItemOn (SBH.sliceItem_ss hk P' fin hz) rfl (fun _ => ltg_str _ _ _ _))))
theorem bin_addL (hz : ds.length + ds'.length ≤ sizeLine) (h1 : (m₁.le md || ds.all D.flat) = true := by rfl) (h2 : (m₂.le md || ds'.all D.flat) = true := by rfl) (hn : md ≠ .flat := by decide) : Bin w k sc ρ .Add m₁ (.lst ds) m₂ (.lst ds') md (.lst (ds ++ ds')) := fun A c s Q E v₁ v₂ R S h₁ h₂ q => by
 refine h₁.cL fun l vs n i r => ?_
 refine h₂.cL fun l' vs' n' i' r' => ?_
 obtain ⟨⟨cls, dd, data, sl⟩, ho, hc, m, hd⟩ := id i
 obtain ⟨⟨cls2, dd2, data2, sl2⟩, ho2, hc2, m2, hd2⟩ := id i'
 simp only at hc hd hc2 hd2
 subst hc hd hc2 hd2
 refine concat_meets ⟨_, ho, rfl⟩ ⟨_, ho2, rfl⟩ noFill_list_add seq_list_add PySem.F.slot_list_add PySem.F.entry_list_add (PySem.F.args_list_add_2 _ _) (list_addW l l' vs.toArray vs'.toArray m m2 dd dd2 sl sl2 (by simpa [r.length, r'.length] using hz)) ⟨ho, ho2, ?_⟩
 rw [show vs.toArray ++ vs'.toArray = (vs ++ vs').toArray by simp]
 refine q _ _ (.push s _ s.toks) (.lst (S.newN (get_end _) hn) ⟨_, Heap.get?_push_size _ rfl, rfl, 0, rfl⟩ ?_)
 exact AtL.kps (s := s) ((r.up h1).append (r'.up h2)) (.push s _ s.toks)
end
noncomputable def Es (w : World) (k : Nat) (sc : Scope) (ρ : Rho) (st : Stmt) (K : Rho → Prop) (R : D → Prop) : Prop :=
 ∀ (A : Around) (c : Cx) (s : Shared) (Q : Flow → Shared → Prop) (E : Value → Shared → Prop), Room A k → St w sc c s.heap ρ →
  (∀ c' s' ρ', Ext c s c' s' → St w sc c' s'.heap ρ' → K ρ' → Q .next s') →
  (∀ c' s' ρ' v d, Ext c s c' s' → St w sc c' s'.heap ρ' → At s'.heap (c'.N .new) v d → R d → Q (.ret v) s') → wpAny (model pr w) A (exec st c.env) Q E s
noncomputable def Ex (w : World) (k : Nat) (sc : Scope) (ρ : Rho) (ss : List Stmt) (K : Rho → Prop) (R : D → Prop) : Prop :=
 ∀ (A : Around) (c : Cx) (s : Shared) (Q : Flow → Shared → Prop) (E : Value → Shared → Prop), Room A k → St w sc c s.heap ρ →
  (∀ c' s' ρ', Ext c s c' s' → St w sc c' s'.heap ρ' → K ρ' → Q .next s') →
  (∀ c' s' ρ' v d, Ext c s c' s' → St w sc c' s'.heap ρ' → At s'.heap (c'.N .new) v d → R d → Q (.ret v) s') → wpAny (model pr w) A (execs ss c.env) Q E s
section
variable {w : World} {k : Nat} {sc : Scope} {ρ ρ' : Rho} {md m₁ m₂ : Md} {d d₁ d₂ : D} {e e₁ e₂ : PySem.Expr} {pos p₁ p₂ : Pos} {st : Stmt} {ss : List Stmt} {K K' : Rho → Prop} {R R' : D → Prop} {c : Cx} {s : Shared} {x : Str}
theorem ex_nil (h : K ρ) : Ex w k sc ρ [] K R := fun A c s Q E R S q r => wpAny_pure (q c s ρ (.refl c s) S h)
theorem ex_cons (h : Es w k sc ρ st K' R) (h' : ∀ ρ', K' ρ' → Ex w k sc ρ' ss K R) : Ex w k sc ρ (st :: ss) K R := fun A c s Q E Rm S q r =>
 wpAny_execs_cons (h A c s _ _ Rm S (fun c₁ s₁ ρ₁ x₁ S₁ k₁ => x₁.env ▸ h' ρ₁ k₁ A c₁ s₁ _ _ Rm S₁ (fun c₂ s₂ ρ₂ x₂ => q c₂ s₂ ρ₂ (x₁.trans x₂)) fun c₂ s₂ ρ₂ v d x₂ => r c₂ s₂ ρ₂ v d (x₁.trans x₂)) fun c₁ s₁ ρ₁ v d x₁ => r c₁ s₁ ρ₁ v d x₁)
theorem ex_seq (h : Es w k sc ρ st (fun r => r = ρ') R) (h' : Ex w k sc ρ' ss K R) : Ex w k sc ρ (st :: ss) K R := ex_cons h fun _ e => e ▸ h'
theorem Ex.weak (h : Ex w k sc ρ' ss K R) (z : Weak ρ ρ') : Ex w k sc ρ ss K R := fun A c s Q E Rm S q r => h A c s Q E Rm (S.weak z) q r
noncomputable def isStore (sc : Scope) (x : Str) : Bool := match sc.names.lookup x with
 | some .local => true
 | some .cell => (sc.names.lookup (Str.ofString ".0")).isNone
 | _ => false
theorem store {A : Around} {v : Value} {Q : Unit → Shared → Prop} {E : Value → Shared → Prop} (S : St w sc c s.heap ρ) (hx : isStore sc x = true) (h : ∀ h' tk, Sets c x v s.heap h' → Q () { s with heap := h', toks := tk }) : wpAny (model pr w) A (storeName c.env x v) Q E s := by
 have e : c.env.kindOf x = sc.names.lookup x := by show c.env.scope.names.lookup x = _; rw [S.scp]
 have hk : c.env.scope.kind = .function := S.scp ▸ S.fn
 obtain ⟨m, n, em⟩ := S.vars.ns
 unfold isStore at hx
 split at hx
 ·rename_i hl
  rw [← e] at hl
  refine wpAny_storeName_local hl n (fun h' n' sb => h h' _ ⟨⟨c.env.locals, S.mutL, .inl rfl, sb, ?_⟩, ⟨_, n', ?_⟩, ?_, S.vars.inj⟩) (by rw [hk]; rfl)
  ·obtain ⟨o, _, _, eo, _⟩ := n'; exact ⟨o, eo⟩
  ·intro y hy
   show (if y = x then some v else m y) = if y = x then some v else c.f y
   rw [em y hy]
  ·intro y hy
   obtain ⟨a, ea, ne, ic⟩ := S.vars.cel y hy
   have hyx : y ≠ x := by rintro rfl; rw [hl] at hy; rcases hy with hy | hy <;> cases hy
   refine ⟨a, ea, ne, ?_⟩
   show h'.IsCell a (if y = x then some v else c.f y)
   rw [if_neg hyx]
   refine ic.sameBut sb ?_
   rintro rfl
   obtain ⟨o, eo, d⟩ := ic
   obtain ⟨o', es, ep, eo', d', _⟩ := n
   rw [eo] at eo'; cases eo'; rw [d] at d'; cases d'
 ·rename_i hl
  rw [← e] at hl
  obtain ⟨a, ea, ne, ic⟩ := S.vars.cel x (.inl hl)
  refine wpAny_storeName_cell hk hl ea ic fun h' ic' sb => h h' s.toks ⟨⟨a, S.mutC x a (Option.isNone_iff_eq_none.mp hx) hl ea, .inr ⟨_, ic⟩, sb, ?_⟩, ⟨m, n.sameBut sb ?_, ?_⟩, ?_, S.vars.inj⟩
  ·obtain ⟨o, eo, _⟩ := ic'; exact ⟨o, eo⟩
  ·rintro rfl
   obtain ⟨o, eo, d⟩ := ic
   obtain ⟨o', es, ep, eo', d', _⟩ := n
   rw [eo] at eo'; cases eo'; rw [d] at d'; cases d'
  ·intro y hy
   have hyx : y ≠ x := by rintro rfl; rw [hl] at hy; cases hy
   show m y = if y = x then some v else c.f y
   rw [if_neg hyx, em y hy]
  ·intro y hy
   obtain ⟨b, eb, nb, ib⟩ := S.vars.cel y hy
   refine ⟨b, eb, nb, ?_⟩
   show h'.IsCell b (if y = x then some v else c.f y)
   by_cases hyx : y = x
   ·subst hyx; rw [if_pos rfl]; rw [ea] at eb; cases eb; exact ic'
   ·rw [if_neg hyx]
    refine ib.sameBut sb ?_
    rintro rfl
    exact hyx (S.vars.inj y x b eb ea)
 ·cases hx
noncomputable abbrev PlainVal (e : PySem.Expr) (x : Str) : Prop := ∀ env p pos, swapsWith e (some (.Name x p)) pos env = pure false
theorem es_assign {fr : Bool} (h : Ev w k sc ρ md e d) (u : Upd ρ x (.dat fr d) ρ') (hx : isStore sc x = true := by kernel_rfl) (hm : up md (Md.of fr) d = true := by rfl) (hs : PlainVal e x := by intro _ _ _; rfl) : Es w k sc ρ (.Assign [.Name x p₁] e pos) (fun r => r = ρ') R := fun A c s Q E Rm S q r =>
 wpAny_Assign_Name (h A c s _ _ Rm S fun v s₁ z₁ a₁ => store (S.kps z₁) hx fun h' tk z => q _ _ ρ' ((Ext.kps z₁).trans (z.ext (S.kps z₁) tk))
  (z.st (S.kps z₁) u (by rintro fr' d' e'; cases e'; exact a₁.up hm) (by rintro sh ds e'; cases e') (by rintro _ _ e'; cases e') (by rintro sh ds e'; cases e')) rfl) (hs _ _ _)
theorem es_new {es : List PySem.Expr} {ds : List D} {p₂ : Pos} (h : EvL w k sc ρ md es ds) (u : Upd ρ x (.own false ds) ρ') (hx : isStore sc x = true := by kernel_rfl) (hm : (md.le .fresh || ds.all D.flat) = true := by rfl) (hz : ds.length ≤ sizeLine := by exact Nat.le_of_ble_eq_true rfl) : Es w k sc ρ (.Assign [.Name x p₁] (.List es p₂) pos) (fun r => r = ρ') R := fun A c s Q E Rm S q r =>
 wpAny_Assign_Name (wpAny_List (h A _ c s _ _ Rm S fun vs s₁ z₁ a₁ => ⟨by rw [a₁.length]; exact hz, by
  have S₁ := S.kps z₁
  have hb : (s₁.heap.push { cls := .type "list", data := .seq vs.toArray }).get? s₁.heap.objs.size = some { cls := .type "list", data := .seq vs.toArray } := Heap.get?_push_size _ rfl
  have P : Kp s₁.heap (s₁.heap.push { cls := .type "list", data := .seq vs.toArray }) := .of fun b o e => Heap.get?_push_of_some _ e
  have nM : c.F s₁.heap.objs.size := (S₁.newN (md := .fresh) (get_end _) (by intro z; cases z)).2.2
  have S₂ := S₁.grow P (get_end _) hb
  have X₂ := (Ext.kps z₁).trans (S₁.grow_ext (t := s₁.toks) P (get_end _))
  let c₂ : Cx := { c with mu := fun a => c.mu a ∨ a = s₁.heap.objs.size, ad := fun y => if y = x then s₁.heap.objs.size else c.ad y }
  have ad' : ∀ y, y ≠ x → c₂.ad y = c.ad y := fun y hy => if_neg hy
  have adx : c₂.ad x = s₁.heap.objs.size := if_pos rfl
  obtain ⟨ρ₀, u₀, u₁⟩ : ∃ ρ₀, Upd ρ x .hid ρ₀ ∧ Upd ρ₀ x (.own false ds) ρ' := u.mid
  have W₀ : Weak ρ ρ₀ := u₀.weak
  have S₃ := S₂.weak W₀
  have nx : ∀ l, (x, l) ∈ ρ₀ → l = .hid := fun l m => by
   rcases u₀.mem S.nodup m with ⟨_, e⟩ | ⟨n, _⟩
   ·exact e
   ·exact absurd rfl n
  have S₄ : St w sc c₂ (s₁.heap.push { cls := .type "list", data := .seq vs.toArray }) ρ₀ := by
   refine { S₃ with vals := fun y l m => ?_, own := fun y y' sh sh' ds ds' m m' ea => ?_ , base₀ := S₃.base₀, keep := S₃.keep, hM := S₃.hM, hF := S₃.hF, scp := S₃.scp, fn := S₃.fn, glo := S₃.glo, blt := S₃.blt, mutL := S₃.mutL, mutC := S₃.mutC, mutO := S₃.mutO, vars := ⟨S₃.vars.ns, S₃.vars.cel, S₃.vars.inj⟩, nodup := S₃.nodup, hidO := S₃.hidO, lkO := S₃.lkO }
   ·by_cases hy : y = x
    ·subst hy; rw [nx l m]; trivial
    ·have H := S₃.vals y l m
     cases l with
     | dat fr d => exact H
     | own sh ds =>
      unfold Holds at H ⊢
      rw [ad' y hy];
      cases sh with
      | false => exact H
      | true => exact H
     | val v' d' => exact H
     | ro d => exact H
     | hid => trivial
   ·have hy : y ≠ x := by rintro rfl; cases nx _ m
    have hy' : y' ≠ x := by rintro rfl; cases nx _ m'
    rw [ad' y hy, ad' y' hy'] at ea
    exact S₃.own y y' sh sh' ds ds' m m' ea
  refine store (c := c₂) S₄ hx fun h' tk z => ?_
  have X₄ : Ext c s c₂ { s₁ with heap := s₁.heap.push { cls := .type "list", data := .seq vs.toArray } } := ⟨rfl, rfl, rfl, rfl, rfl, rfl, X₂.mono, X₂.new, X₂.kp, X₂.sh⟩
  refine q _ _ ρ' (X₄.trans (z.ext S₄ tk)) (z.st S₄ u₁ (by rintro _ _ e'; cases e') ?_ (by rintro _ _ e'; cases e') ?_) rfl
  ·rintro sh ds' e'
   cases e'
   refine ⟨by show Value.ref _ = Value.ref (c₂.ad x); rw [adx], ⟨.inr adx, by rw [adx]; exact nM⟩, vs, ?_, ?_⟩
   ·rw [adx]; exact ⟨0, hb⟩
   ·refine ((AtL.up a₁ hm).here).map fun a o n e => ⟨P.get a o n.1.1 (fun z => z) e, n.1.1, fun q => ?_, n.1.2.2⟩
    rcases q with (q | rfl) | q
    ·exact n.1.2.1 (.inl q)
    ·rw [get_end] at e; cases e
    ·exact n.1.2.1 (.inr q)
  ·rintro sh ds' e' y sh' ds₂ ny m
   cases e'
   rw [adx, ad' y ny]
   have mS : ∃ sh ds, (y, LV.own sh ds) ∈ ρ := by
    rcases W₀.mem m with m | m
    ·exact ⟨_, _, m⟩
    ·cases m
   obtain ⟨_, _, mS⟩ := mS
   obtain ⟨_, _, _, ⟨mm, _⟩, _⟩ := S₁.vals y _ mS
   rintro e
   obtain ⟨_, ⟨o, eo⟩, _⟩ := S₁.mutO _ mm
   rw [← e, get_end] at eo; cases eo⟩)) (by rfl)
end
noncomputable abbrev anyN : Addr → Prop := fun a => a ≠ TF
structure FnAt (w : World) (fa : Addr) (fd : FuncData) (body : List Stmt) : Prop where
 obj : ∃ o, (H1 w.params).get? fa = some o ∧ o.data = .func fd
 ne : fa ≠ TF
 body : fd.body = .stmts body
 clo : fd.closure = []
 glo : fd.globals = mainGlobals
 blt : fd.builtins = builtinsNs
 co : fd.scope.isCoroutine = false
 gen : fd.scope.isGenerator = false
 kind : fd.scope.kind = .function
 free : fd.scope.names.all (fun x => x.2 != .free) = true
 code : ∃ c o vs t, fd.code = .ref c ∧ c ≠ TF ∧ (H1 w.params).get? c = some o ∧ o.data = .fields vs ∧ vs[1]? = some (.str fd.qualname t)
noncomputable def FnOK (w : World) (k : Nat) (fa : Addr) (args : List D) (kw : List (Str × D)) (res : D) : Prop :=
 ∀ (A : Around) (s : Shared) (Q : Value → Shared → Prop) (E : Value → Shared → Prop) (vs us : List Value), Room A k → SaysT w s.heap → AtL s.heap anyN vs args → AtL s.heap anyN us (kw.map (·.2)) →
  (∀ v s', Kps s s' → At s'.heap (fun a => a ≠ TF ∧ s.heap.get? a = none) v res → Q v s') → wpAny (model pr w) A (call (.ref fa) vs ((kw.map (·.1)).zip us)) Q E s
noncomputable def Binds (w : World) (fd : FuncData) (args : List D) (kw : List (Str × D)) (ps : List Str) (ds : List D) : Prop :=
 ∀ (A : Around) (s : Shared) (Q : List (Str × Value) → Shared → Prop) (E : Value → Shared → Prop) (vs us : List Value), A.handled = none → SaysT w s.heap → AtL s.heap anyN vs args → AtL s.heap anyN us (kw.map (·.2)) →
  (∀ zs h' tk, Kp s.heap h' → AtL h' anyN zs ds → Q (ps.zip zs) { s with heap := h', toks := tk }) → wpAny (model pr w) A (bindArgs fd ⟨vs, (kw.map (·.1)).zip us⟩) Q E s
theorem says_lim {w : World} {h : Heap} (S : SaysT w h) : h.NoLimit := by
 have n : (H1 w.params).Ns cStatics ((H1 w.params).nsMap cStatics) := Heap.Ns.of_isNs (show (H1 w.params).isNs cStatics = true by kernel_rfl)
 refine ⟨_, n.at' (fun o eo => S.get _ o (by decide) (fun z => z) eo), ?_⟩
 kernel_rfl
theorem cells_some (x : Str) : ∀ (names : List (Str × NameKind)) (n : Nat) (acc : List (Str × Addr)), ((x, NameKind.cell) ∈ names ∨ (acc.lookup x).isSome = true) → ((cellsFrom n names acc).lookup x).isSome = true
 | [], n, acc, h => by
  rcases h with h | h
  ·cases h
  ·exact h
 | (y, kd) :: r, n, acc, h => by
  unfold cellsFrom
  by_cases hk : (kd == NameKind.cell) = true
  ·rw [if_pos hk]
   refine cells_some x r _ _ ?_
   by_cases hy : x = y
   ·right; subst hy; simp
   ·rcases h with h | h
    ·cases h with
     | head => exact absurd rfl hy
     | tail _ h => exact .inl h
    ·right; rw [List.lookup_cons]; split
     ·rfl
     ·exact h
  ·rw [if_neg hk]
   refine cells_some x r _ _ ?_
   rcases h with h | h
   ·cases h with
    | head => exact absurd rfl hk
    | tail _ h => exact .inl h
   ·exact .inr h
theorem lookup_mem' {α : Type} : ∀ {l : List (Str × α)} {n : Str} {c : α}, l.lookup n = some c → (n, c) ∈ l
 | [], _, _, h => by cases h
 | (m, d) :: r, n, c, h => by
  rw [List.lookup_cons] at h
  split at h
  ·rename_i e; cases h; rw [beq_iff_eq.mp e]; exact .head _
  ·exact .tail _ (lookup_mem' h)
theorem bindL_keep {kd : Str → Option NameKind} {x : Str} : ∀ (bs : List (Str × Value)) (m : Str → Option Value), (∀ v, (x, v) ∉ bs) → bindL kd bs m x = m x
 | [], m, _ => rfl
 | (n, v) :: r, m, h => by
  rw [bindL, bindL_keep r _ fun v q => h v (.tail _ q)]
  have : x ≠ n := by rintro rfl; exact h v (.head _)
  split
  ·simp [this]
  ·rfl
theorem bindC_keep {kd : Str → Option NameKind} {x : Str} : ∀ (bs : List (Str × Value)) (m : Str → Option Value), (∀ v, (x, v) ∉ bs) → bindC kd bs m x = m x
 | [], m, _ => rfl
 | (n, v) :: r, m, h => by
  rw [bindC, bindC_keep r _ fun v q => h v (.tail _ q)]
  have : x ≠ n := by rintro rfl; exact h v (.head _)
  split
  ·rfl
  ·simp [this]
theorem bindL_get {kd : Str → Option NameKind} {x : Str} {v : Value} : ∀ (bs : List (Str × Value)) (m : Str → Option Value), (bs.map (·.1)).Nodup → (x, v) ∈ bs → kd x = some .local → bindL kd bs m x = some v
 | (n, u) :: r, m, nd, h, hk => by
  rw [List.map_cons, List.nodup_cons] at nd
  rw [bindL]
  cases h with
  | head => rw [bindL_keep r _ fun v q => nd.1 (List.mem_map.mpr ⟨_, q, rfl⟩), if_pos hk, if_pos rfl]
  | tail _ h => exact bindL_get r _ nd.2 h hk
theorem bindC_get {kd : Str → Option NameKind} {x : Str} {v : Value} : ∀ (bs : List (Str × Value)) (m : Str → Option Value), (bs.map (·.1)).Nodup → (x, v) ∈ bs → kd x ≠ some .local → bindC kd bs m x = some v
 | (n, u) :: r, m, nd, h, hk => by
  rw [List.map_cons, List.nodup_cons] at nd
  rw [bindC]
  cases h with
  | head => rw [bindC_keep r _ fun v q => nd.1 (List.mem_map.mpr ⟨_, q, rfl⟩), if_neg hk, if_pos rfl]
  | tail _ h => exact bindC_get r _ nd.2 h hk
noncomputable def rho0 (ps : List Str) (ds : List D) (hids : List Str) : Rho := (ps.zip ds).map (fun p => (p.1, LV.dat false p.2)) ++ hids.map fun x => (x, LV.hid)
noncomputable def HoldsV (h : Heap) (v : Value) : LV → Prop
 | .dat false d => At h anyN v d
 | .val v' d => v = v' ∧ At h anyN v d
 | .hid => True
 | _ => False
inductive HoldsL (h : Heap) : List Value → List LV → Prop
 | nil : HoldsL h [] []
 | cons {v : Value} {l : LV} {vs : List Value} {ls : List LV} : HoldsV h v l → HoldsL h vs ls → HoldsL h (v :: vs) (l :: ls)
theorem HoldsL.mem {h : Heap} {x : Str} {l : LV} {v : Value} : ∀ {ps : List Str} {zs : List Value} {lvs : List LV}, ps.Nodup → HoldsL h zs lvs → (x, l) ∈ ps.zip lvs → (x, v) ∈ ps.zip zs → HoldsV h v l
 | [], _, _, _, _, m, _ => by cases m
 | p :: ps, _, _, _, .nil, m, _ => by cases m
 | p :: ps, _, _, nd, .cons a r, m, m' => by
  rw [List.nodup_cons] at nd
  have no : ∀ {β : Type} {l : List β} {b : β}, (p, b) ∉ ps.zip l := fun m => nd.1 (List.of_mem_zip m).1
  rw [List.zip_cons_cons] at m m'
  cases m with
  | head => cases m' with
   | head => exact a
   | tail _ m' => exact absurd m' no
  | tail _ m => cases m' with
   | head => exact absurd m no
   | tail _ m' => exact HoldsL.mem nd.2 r m m'
structure Entered (s : Shared) (h' : Heap) (ps : List Str) (zs : List Value) (cx : Cx) (s₁ : Shared) : Prop where
 h₀ : cx.h₀ = h'
 sh : ∃ h t, s₁ = { s with heap := h, toks := t }
 kp : Kp h' s₁.heap
 mu : ∀ z, cx.mu z → h'.get? z = none
 M : cx.M = fun _ => False
 F : cx.F = fun z => h'.get? z = none
 hid : cx.hid = fun _ => False
 lk : cx.lk = fun _ => False
 f : ∀ x v, (x, v) ∈ ps.zip zs → cx.f x = some v
theorem holds_map {h : Heap} {vs : List Value} {ds : List D} (a : AtL h anyN vs ds) : HoldsL h vs (ds.map (LV.dat false)) := by
 induction vs generalizing ds with
 | nil => cases a; exact .nil
 | cons v vs ih => cases a with | cons x r => exact .cons x (ih r)
section
variable {w : World} {k : Nat} {fa : Addr} {fd : FuncData} {body : List Stmt} {ps hids : List Str} {A : Around} {s : Shared} {Q : Value → Shared → Prop} {E : Value → Shared → Prop} {vs zs : List Value} {kw : List (Str × Value)} {h' : Heap} {tk : Nat} {lvs : List LV}
theorem enterG {Z : List Value → Heap → Prop} (F : FnAt w fa fd body) (Rm : Room A (k + 1)) (S : SaysT w s.heap) (hB : ∀ (Q' : List (Str × Value) → Shared → Prop) E', (∀ zs h' tk, Z zs h' → Q' (ps.zip zs) { s with heap := h', toks := tk }) → wpAny (model pr w) A.in1 (bindArgs fd ⟨vs, kw⟩) Q' E' s) (hZ : ∀ zs h', Z zs h' → zs.length = ps.length ∧ Kp s.heap h' ∧ HoldsL h' zs lvs)
  (hl : lvs.length = ps.length) (hn : (ps ++ hids).Nodup) (hs : (ps ++ hids).all (isStore fd.scope) = true)
  (h : ∀ zs h' cx s₁ E', Z zs h' → Room (A.deeper cx.env) k → St w fd.scope cx s₁.heap (ps.zip lvs ++ hids.map fun x => (x, LV.hid)) → Entered s h' ps zs cx s₁ → wpAny (model pr w) (A.deeper cx.env) (execs body cx.env) (fun f s' => Q (match f with | .ret v => v | _ => .none) s') E' s₁)
  (hfr : (isFr fd.scope && !((match fd.code with | .ref a => a == 347 | _ => false) && fd.qualname ++ Str.ofString ".<locals>." == lamPre)) = false := by kernel_rfl) : codeAny (model pr w) A (.call (.ref fa) ⟨vs, kw⟩) (fun r s' => match r with | .ok (.ret v) => Q v s' | .ok _ => False | .error e => E e s') s := by
 obtain ⟨o, ho, hd⟩ := F.obj
 obtain ⟨c, oc, ws, t, ec, nc, hc, hcd, hq⟩ := F.code
 refine codeAny_call_function Rm.lim (S.get _ _ F.ne (fun z => z) ho) hd F.co F.gen F.body ⟨c, oc, ws, t, ec, S.get _ _ nc (fun z => z) hc, hcd, hq⟩ ?_
 refine hB _ _ fun zs h' tk hZz => ?_
 obtain ⟨hz, kp, hvl⟩ := hZ zs h' hZz
 have hv : ∀ x l v, (x, l) ∈ ps.zip lvs → (x, v) ∈ ps.zip zs → HoldsV h' v l := fun x l v m m' => HoldsL.mem (List.nodup_append.mp hn).1 hvl m m'
 rw [F.clo]
 have zmap : (ps.zip zs).map (·.1) = ps := by rw [List.map_fst_zip]; lia
 have lmap : (ps.zip lvs).map (·.1) = ps := by rw [List.map_fst_zip]; lia
 have hkd : ∀ x, x ∈ ps ++ hids → fd.scope.names.lookup x = some .local ∨ fd.scope.names.lookup x = some .cell := fun x m => by
  have := List.all_eq_true.mp hs x m
  unfold isStore at this
  split at this <;> simp_all
 refine wpAny_newFunctionEnv_cells F.kind (fun x m => ?_) fun env he s₁ I => ?_
 ·have mx : x.1 ∈ ps := by rw [← zmap]; exact List.mem_map_of_mem m
  rcases hkd _ (List.mem_append_left _ mx) with e | e
  ·exact .inl e
  ·exact .inr ⟨e, cells_some _ _ _ _ (.inl (lookup_mem' e))⟩
 subst he
 obtain ⟨h₁, tk₁, rfl⟩ := I.toInCall.same
 have S' : SaysT w h' := Kp.trans S kp
 have k₁ : Kp h' h₁ := .of I.toInCall.keep
 have S₁ : SaysT w h₁ := Kp.trans S' k₁
 refine ⟨says_lim S₁, codeAny_func ?_⟩
 rw [F.glo, F.blt] at *
 let L : Addr := h'.objs.size
 let env : Env := newEnv fd.scope L mainGlobals (cellsFrom (L + 1) fd.scope.names []) (fd.qualname ++ ".<locals>.") (some fa) fd.code none builtinsNs
 let cx : Cx := { env := env, h₀ := h', f := fun x => if env.kindOf x = some .local then bindL env.kindOf (ps.zip zs) (fun _ => none) x else bindC env.kindOf (ps.zip zs) (fun _ => none) x, ad := fun _ => 0, mu := fun a => a = L ∨ ∃ x, env.cells.lookup x = some a, M := fun _ => False, F := fun a => h'.get? a = none, hid := fun _ => False, lk := fun _ => False }
 have freshL : h'.get? L = none := get_end _
 have freshC : ∀ x a, (x, a) ∈ env.cells → h'.get? a = none := fun x a m => by
  have := I.above x a m
  cases e : h'.get? a with
  | none => rfl
  | some o => exact absurd (Heap.lt_size e) (Nat.lt_asymm this)
 have neT : ∀ a, h'.get? a = none → a ≠ TF := fun a e => ne_TF S' e
 have ap : ∀ x y a, (x, a) ∈ env.cells → (y, a) ∈ env.cells → x = y := fun x y a => name_of_addr I.apart
 have memC : ∀ x a, env.cells.lookup x = some a → (x, a) ∈ env.cells := fun x a e => lookup_mem' e
 have nd : ((ps.zip zs).map (·.1)).Nodup := by rw [zmap]; exact (List.nodup_append.mp hn).1
 have cxf : ∀ y v, (y, v) ∈ ps.zip zs → cx.f y = some v := fun y v m => by
  show (if env.kindOf y = some .local then _ else _) = some v
  by_cases e : env.kindOf y = some .local
  ·rw [if_pos e]; exact bindL_get _ _ nd m e
  ·rw [if_neg e]; exact bindC_get _ _ nd m e
 have St₁ : St w fd.scope cx h₁ (ps.zip lvs ++ hids.map fun x => (x, LV.hid)) := by
  refine ⟨S', k₁.to, fun b z => z.elim, fun a e => e, rfl, F.kind, rfl, rfl, .inl rfl, fun x a _ _ e => .inr ⟨x, e⟩, ?_, ⟨?_, ?_, fun x y a e e' => ap x y a (memC _ _ e) (memC _ _ e')⟩, ?_, ?_, ?_, fun a z => z.elim, fun a z => z.elim, fun N z => (k₁.tk N z).here.weak fun a ne n => ⟨n.1, by
   obtain ⟨_, o, e, vs, _, d, _⟩ := n
   rintro ((rfl | ⟨x, m⟩) | q | q)
   ·obtain ⟨o', es, ep, e', d', _⟩ := I.toInCall.ns; have e' := e.symm.trans e'; cases e'; rw [d] at d'; cases d'
   ·obtain ⟨o', eo, dc⟩ := I.cell x a m; have eo := e.symm.trans eo; cases eo; rw [d] at dc; cases dc
   ·exact q
   ·exact q⟩, fun z => by
   rw [z] at hfr
   simp only [Bool.true_and, Bool.not_eq_false', Bool.and_eq_true, beq_iff_eq] at hfr
   refine ⟨?_, hfr.2⟩
   show fd.code = _
   have h1 := hfr.1
   split at h1
   ·rename_i a ea; rw [ea]; simp only [beq_iff_eq] at h1; rw [h1]
   ·cases h1⟩
  ·rintro a (rfl | ⟨x, m⟩)
   ·obtain ⟨o, _, _, e, _⟩ := I.toInCall.ns; exact ⟨neT _ freshL, ⟨o, e⟩, .inl freshL⟩
   ·obtain ⟨o, eo, _⟩ := I.cell x a m
    exact ⟨neT _ (freshC x a (memC x a m)), ⟨o, eo⟩, .inl (freshC x a (memC x a m))⟩
  ·refine ⟨_, I.toInCall.ns, fun x e => ?_⟩
   show _ = if env.kindOf x = some .local then _ else _
   rw [if_pos e]
  ·intro x e
   have hx : env.kindOf x = some .cell := by
    rcases e with e | e
    ·exact e
    ·have := List.all_eq_true.mp F.free _ (lookup_mem' e)
     simp at this
   obtain ⟨a, ea⟩ := Option.isSome_iff_exists.mp (cells_some x fd.scope.names (L + 1) [] (.inl (lookup_mem' hx)))
   refine ⟨a, ea, ⟨neT _ (freshC x a (memC x a ea)), fun z => z⟩, ?_⟩
   have := I.cell x a ea
   show h₁.IsCell a (if env.kindOf x = some .local then _ else _)
   rw [if_neg (by rw [hx]; intro z; cases z)]
   exact this
  ·have : (ps.zip lvs ++ hids.map fun x => (x, LV.hid)).map (·.1) = ps ++ hids := by
    rw [List.map_append, lmap, List.map_map]
    congr 1
    exact List.map_id _
   rw [this]; exact hn
  ·intro x l m
   rcases List.mem_append.mp m with m | m
   ·have mx : x ∈ (ps.zip zs).map (·.1) := by rw [zmap, ← lmap]; exact List.mem_map_of_mem m
    obtain ⟨⟨y, v⟩, mv, e⟩ := List.mem_map.mp mx
    have e : y = x := e
    subst e
    have H := hv y l v m mv
    have keep : ∀ {d}, At h' anyN v d → At h₁ (cx.N .free) v d := fun av => (av.here).map fun a o n e => ⟨k₁.get a o n.1 (fun z => z) e, n.1, by
     rintro ((rfl | ⟨x, m⟩) | z | z)
     ·exact no freshL e
     ·exact no (freshC x a (memC x a m)) e
     ·exact z
     ·exact z⟩
    cases l with
    | dat fr d =>
     cases fr with
     | false => exact ⟨v, cxf y v mv, keep H⟩
     | true => exact H.elim
    | own sh ds => exact H.elim
    | val v' d => obtain ⟨rfl, H⟩ := H; exact ⟨cxf y v mv, keep H⟩
    | ro d => exact H.elim
    | hid => trivial
   ·obtain ⟨y, m, e⟩ := List.mem_map.mp m
    cases e; trivial
  ·intro x y sh sh' d1 d2 m
   exfalso
   rcases List.mem_append.mp m with m | m
   ·have mx : x ∈ (ps.zip zs).map (·.1) := by rw [zmap, ← lmap]; exact List.mem_map_of_mem m
    obtain ⟨⟨y, v⟩, mv, e⟩ := List.mem_map.mp mx
    have e : y = x := e
    subst e
    exact hv y _ v m mv
   ·obtain ⟨y, m, e⟩ := List.mem_map.mp m; cases e
 refine h zs h' cx { s with heap := h₁, toks := tk₁ } _ hZz (Rm.deeper env) St₁ ⟨rfl, ⟨h₁, tk₁, rfl⟩, k₁, ?_, rfl, rfl, rfl, rfl, cxf⟩
 rintro z (rfl | ⟨x, m⟩)
 ·exact freshL
 ·exact freshC x z (memC x z m)
theorem Entered.out {sc : Scope} {cx c' : Cx} {s₁ s' : Shared} {ρ : Rho} (I : Entered s h' ps zs cx s₁) (kp : Kp s.heap h') (X : Ext cx s₁ c' s') (S : St w sc c' s'.heap ρ) : Kps s s' := by
 obtain ⟨h₁, t₁, rfl⟩ := I.sh
 obtain ⟨h₂, t₂, rfl⟩ := X.sh
 have nmu : ∀ b o, h'.get? b = some o → ¬ cx.mu b := fun b o e q => by exact no (I.mu b q) e
 refine ⟨h₂, t₂, rfl, ⟨⟨fun b o n _ e => ?_, fun o vs e d => ?_⟩, fun N z => ?_⟩⟩
 ·have e' := kp.get b o n (fun z => z) e
  exact X.kp.get b o n (nmu b o e') (I.kp.get b o n (fun z => z) e')
 ·obtain ⟨m₁, e₁⟩ := (kp.trans I.kp).tab o vs e d
  obtain ⟨m₂, e₂⟩ := X.kp.tab _ _ e₁ rfl
  exact ⟨m₁ ++ m₂, by rw [e₂, Array.append_assoc]⟩
 ·have hh : c'.h₀ = h' := X.h₀.trans I.h₀
  have tt := S.tabO
  rw [hh] at tt
  refine (tt _ (kp.tk N z)).weak fun a ne n => ?_
  rcases n.1 with n | n
  ·exact n
  ·right
   cases e : s.heap.get? a with
   | none => rfl
   | some o => exact no n (kp.get a o ne (fun z => z) e)
end
section
variable {w : World} {k : Nat} {fa : Addr} {fd : FuncData} {body : List Stmt} {args ds : List D} {kw : List (Str × D)} {ps hids : List Str} {res : D}
theorem fn_ok (F : FnAt w fa fd body) (B : Binds w fd args kw ps ds) (hl : ps.length = ds.length) (hn : (ps ++ hids).Nodup) (hs : (ps ++ hids).all (isStore fd.scope) = true)
  (h : Ex w k fd.scope (rho0 ps ds hids) body (fun _ => res = .none) (fun d => d = res)) (hfr : (isFr fd.scope && !((match fd.code with | .ref a => a == 347 | _ => false) && fd.qualname ++ Str.ofString ".<locals>." == lamPre)) = false := by kernel_rfl) : FnOK w (k + 1) fa args kw res := fun A s Q E vs us Rm S hv hu q => by
 refine wpAny_call (enterG (lvs := ds.map (LV.dat false)) (Z := fun zs h' => Kp s.heap h' ∧ AtL h' anyN zs ds) F Rm S (fun Q' E' p => B A.in1 s Q' E' vs us Rm.hh S hv hu fun zs h' tk kp az => p zs h' tk ⟨kp, az⟩) (fun zs h' z => ⟨z.2.length.trans hl.symm, z.1, holds_map z.2⟩) (by rw [List.length_map, hl]) hn hs (fun zs h' cx s₁ E' z R' St₁ I => ?_) hfr)
 obtain ⟨kp, az⟩ := z
 rw [List.zip_map_right] at St₁
 have fin : ∀ {c' s' ρ' v}, Ext cx s₁ c' s' → St w fd.scope c' s'.heap ρ' → At s'.heap (c'.N .new) v res → Q v s' := fun {c' s' ρ' v} x S' a => q v s' (I.out kp x S') (a.weak fun b n => ⟨n.1, by
  have f : c'.F b := n.2
  rw [x.F, I.F] at f
  cases e : s.heap.get? b with
  | none => rfl
  | some o => exact no f (kp.get b o n.1 (fun z => z) e)⟩)
 refine h (A.deeper cx.env) cx s₁ _ _ R' St₁ (fun c' s' ρ' x S' e => ?_) (fun c' s' ρ' v d x S' a e => ?_)
 ·exact fin x S' (by rw [e]; exact .none)
 ·exact fin x S' (e ▸ a)
end
section
variable {w : World} {k : Nat} {sc : Scope} {ρ ρ' : Rho} {md m₁ m₂ : Md} {d d₁ d₂ : D} {e e₁ e₂ : PySem.Expr} {pos p₁ p₂ p₃ : Pos} {st : Stmt} {ss : List Stmt} {K K' : Rho → Prop} {R R' : D → Prop} {c : Cx} {s : Shared} {x : Str} {ds : List D}
theorem es_return (h : Ev w k sc ρ md e d) (hr : R d) (hm : up md .new d = true := by rfl) : Es w k sc ρ (.Return (some e) pos) K R := fun A c s Q E Rm S q r =>
 wpAny_Return_some (h A c s _ _ Rm S fun v s' p a => r c s' ρ v d (.kps p) (S.kps p) (a.up hm) hr)
theorem es_return_own (hx : (x, .own false ds) ∈ ρ) (hr : R (.lst ds)) (hv : isVar sc x = true := by kernel_rfl) : Es w k sc ρ (.Return (some (.Name x p₁)) pos) K R := fun A c s Q E Rm S q r => by
 obtain ⟨v, l, o, m, vs, p, a⟩ := S.vals x _ hx
 obtain ⟨h1, h2, h3⟩ := isVar.kind S hv
 cases (show v = .ref (c.ad x) from o)
 exact wpAny_Return_some (look S h1 l (r c s ρ _ _ (.refl c s) S (.lst ⟨(S.mutO _ m.1).1, m.2⟩ p.isList (a.weak fun _ n => ⟨n.1, n.2.2⟩)) hr) h2 h3)
theorem es_if {b : Bool} {body orelse : List Stmt} (ht : Ts w k sc ρ e b) (h : b = true → Ex w k sc ρ body K R) (h' : b = false → Ex w k sc ρ orelse K R) : Es w k sc ρ (.If e body orelse pos) K R := fun A c s Q E Rm S q r =>
 wpAny_If (ht A c s _ _ Rm S fun s₁ p => by
  cases b with
  | true => exact h rfl A c s₁ Q E Rm (S.kps p) (fun c' s' ρ' x => q c' s' ρ' ((Ext.kps p).trans x)) fun c' s' ρ' v d x => r c' s' ρ' v d ((Ext.kps p).trans x)
  | false => exact h' rfl A c s₁ Q E Rm (S.kps p) (fun c' s' ρ' x => q c' s' ρ' ((Ext.kps p).trans x)) fun c' s' ρ' v d x => r c' s' ρ' v d ((Ext.kps p).trans x))
theorem es_while {σ : Type} {body : List Stmt} (ρo : σ → Rho) (P : σ → Prop) (b : σ → Bool) (f : σ → σ) (m : σ → Nat) (x₀ : σ) (h0 : ρ = ρo x₀) (hP : P x₀)
  (ht : ∀ x, P x → Ts w k sc (ρo x) e (b x)) (hb : ∀ x, P x → b x = true → Ex w k sc (ρo x) body (fun r => r = ρo (f x)) R)
  (hf : ∀ x, P x → b x = true → P (f x) ∧ m (f x) < m x) (hK : ∀ x, P x → b x = false → K (ρo x)) : Es w k sc ρ (.While e body [] pos) K R := fun A c s Q E Rm S q r => by
 subst h0
 refine wpAny_While ?_
 refine codeAny_whileLoop (fun n s₁ => ∃ c₁ x, Ext c s c₁ s₁ ∧ St w sc c₁ s₁.heap (ρo x) ∧ P x ∧ m x = n) (fun n s₁ ⟨c₁, x, X, S₁, hx, hn⟩ => ?_) (m x₀) ⟨c, x₀, .refl c s, S, hP, rfl⟩
 rw [← X.env]
 refine ht x hx A c₁ s₁ _ _ Rm S₁ fun s₂ p => ?_
 have X₂ := X.trans (.kps p)
 cases hbx : b x with
 | true =>
  refine hb x hx hbx A c₁ s₂ _ _ Rm (S₁.kps p) (fun c' s' ρ' z S' e' => ?_) fun c' s' ρ' v d z S' a hr => r c' s' ρ' v d (X₂.trans z) S' a hr
  obtain ⟨hp, hm⟩ := hf x hx hbx
  exact ⟨_, hn ▸ hm, c', f x, X₂.trans z, e' ▸ S', hp, rfl⟩
 | false => exact wpAny_pure (q c₁ s₂ _ X₂ (S₁.kps p) (hK x hx hbx))
theorem noLine {A : Around} {l : Addr} {o : Obj} {Q : Value × List Value → Shared → Prop} {E : Value → Shared → Prop} {pl : Sem Bool} (ho : s.heap.get? l = some o) (hc : o.cls = .type "list") (hd : o.dict = none)
  {name : Str} {id : String} (sl : Slot "list" name id) (ty : typeOf (.builtin id) = pure (.type "method_descriptor")) (h : Q (.builtin id, [.ref l]) s) : wpAny (model pr w) A (getMethod (.ref l) name pl) Q E s :=
 getMethod_builtin ⟨o, ho, hc⟩ PySem.F.plainAttrs_list sl ty (fun a e => by cases e; exact ⟨o, ho, hd⟩) h
theorem es_append {ps pa pc : Pos} (h : Ev w k sc ρ md e d) (hx : (x, .own false ds) ∈ ρ) (u : Upd ρ x (.own false (ds ++ [d])) ρ') (hz : ds.length ≤ sizeLine) (hv : isVar sc x = true := by kernel_rfl) (hm : up md .fresh d = true := by rfl) (hp : plainE e = true := by rfl)
  (he : ∀ env, eval (.Call (.Attribute (.Name x p₁) (Str.ofString "append") pa) [e] [] pc) env = (do
   let ov ← eval (.Name x p₁) env
   standAt pa.atName
   let (f, first) ← holding [ov] (getMethod ov (Str.ofString "append") (do return (← importBound (.Name x p₁) env).getD true))
   callWith pc f first (backTo pc (starEach [e] env)) []) := by intro _; rfl) : Es w k sc ρ (.Expr (.Call (.Attribute (.Name x p₁) (Str.ofString "append") pa) [e] [] pc) ps) (fun r => r = ρ') R := fun A c s Q E Rm S q r => by
 refine bc fun gG => ?_
 obtain ⟨h1, h2, h3⟩ := isVar.kind S hv
 obtain ⟨v, l, o, m, vs, p, a⟩ := S.vals x _ hx
 refine gG ?_; clear gG
 cases (show v = .ref (c.ad x) from o)
 refine wpAny_Expr ?_ (by show (c.env.scope.kind == ScopeKind.module && _) = false; rw [S.scp, S.fn]; rfl) rfl
 refine MethodCall_ (pl := do return (← importBound (.Name x p₁) c.env).getD true) (look S h1 l ?_ h2 h3) (he _)
 ·obtain ⟨n, ho⟩ := p
  refine noLine ho rfl rfl PySem.F.slot_list_append PySem.F.type_list_append ?_
  have hs : starEach [e] c.env = [(false, eval e c.env)] := starEach_plain hp
  refine callWith_method1 ?_ hs rfl
  refine wpAny_items_cons (h A c s _ _ Rm S fun v s₁ z₁ a₁ => wpAny_items_nil ?_) hs
  have S₁ := S.kps z₁
  refine bc fun gG => ?_
  obtain ⟨v', l', o', m', vs', p', a'⟩ := S₁.vals x _ hx
  refine gG ?_; clear gG
  refine wpAny_list_append_plain p' (fun h' pl sb => ?_) (by rw [List.size_toArray, a'.length]; exact hz)
  have X : Ext c s c { s₁ with heap := h' } := (Ext.kps z₁).trans ⟨rfl, rfl, rfl, rfl, rfl, rfl, fun _ q => q, fun _ q => .inl q, .sameBut sb m'.1 (S₁.mutO _ m'.1).1, h', s₁.toks, rfl⟩
  have e : vs'.toArray.push v = (vs' ++ [v]).toArray := by simp
  rw [e] at pl
  refine q c _ ρ' X (S₁.put hx u sb pl ?_) rfl
  exact a'.append (.cons (a₁.up hm) .nil)
theorem es_setitem {i : Int} (h : Ev w k sc ρ md e d) (hi : Ev w k sc ρ m₁ e₁ (.int i)) (hx : (x, .own false ds) ∈ ρ) (u : Upd ρ x (.own false (ds.set i.toNat d)) ρ') (h0 : 0 ≤ i) (hn : i.toNat < ds.length) (hz : i < 2 ^ 63) (hv : isVar sc x = true := by kernel_rfl)
  (hm : up md .fresh d = true := by rfl) (hs : ∀ env pos, swapsWith e (some (.Subscript (.Name x p₁) e₁ p₂)) pos env = pure false := by intro _ _; rfl) :
  Es w k sc ρ (.Assign [.Subscript (.Name x p₁) e₁ p₂] e pos) (fun r => r = ρ') R := fun A c s Q E Rm S q r => by
 refine bc fun gG => ?_
 obtain ⟨h1, h2, h3⟩ := isVar.kind S hv
 refine gG ?_; clear gG
 refine wpAny_Assign_Subscript (h A c s _ _ Rm S fun v s₁ z₁ a₁ => ?_) (hs _ _)
 have S₁ := S.kps z₁
 refine bc fun gG => ?_
 obtain ⟨v', l', o', m', vs', p', a'⟩ := S₁.vals x _ hx
 refine gG ?_; clear gG
 cases (show v' = .ref (c.ad x) from o')
 refine look S₁ h1 l' ?_ h2 h3
 refine hi A c s₁ _ _ Rm S₁ fun vi s₂ z₂ a₂ => ?_
 refine a₂.cI fun _ => ?_
 have S₂ := S₁.kps z₂
 refine bc fun gG => ?_
 obtain ⟨v₃, l₃, o₃, m₃, vs₃, ⟨n₃, p₃⟩, a₃⟩ := S₂.vals x _ hx
 refine gG ?_; clear gG
 have hn' : i.toNat < vs₃.length := by rw [a₃.length]; exact hn
 refine ki_setAt p₃ h0 hz (by rw [List.size_toArray]; lia) ?_
 have sb := Heap.SameBut.update s₂.heap (c.ad x) (Obj.mapSeq (·.setIfInBounds i.toNat v))
 have pl : (s₂.heap.update (c.ad x) (Obj.mapSeq (·.setIfInBounds i.toNat v))).PlainList (c.ad x) (vs₃.set i.toNat v).toArray := by
  refine ⟨n₃, (Heap.get?_update_self _ p₃ rfl).trans ?_⟩
  show some (Obj.mapSeq _ { cls := Value.type "list", data := Data.seq vs₃.toArray n₃ }) = _
  simp [Obj.mapSeq]
 have X : Ext c s c { s₂ with heap := s₂.heap.update (c.ad x) (Obj.mapSeq (·.setIfInBounds i.toNat v)) } := ((Ext.kps z₁).trans (Ext.kps z₂)).trans ⟨rfl, rfl, rfl, rfl, rfl, rfl, fun _ q => q, fun _ q => .inl q, .sameBut sb m₃.1 (S₂.mutO _ m₃.1).1, _, s₂.toks, rfl⟩
 refine q c _ ρ' X (S₂.put hx u sb pl ?_) rfl
 exact a₃.set _ ((a₁.up hm).kps z₂)
theorem ev_call {fa : Addr} {fd : FuncData} {body : List Stmt} {f : Str} {es : List PySem.Expr} {args : List D} {res : D} (hf : EvV w (k + 1) sc ρ (.Name f p₁) (.ref fa)) (F : FnAt w fa fd body) (h : EvL w (k + 1) sc ρ .any es args) (hF : FnOK w (k + 1) fa args [] res) (hne : es ≠ [] := by intro z; cases z) (hp : es.all plainE = true := by rfl) :
  Ev w (k + 1) sc ρ .fresh (.Call (.Name f p₁) es [] pos) res := fun A c s Q E Rm S q => by
 obtain ⟨o, ho, hd⟩ := F.obj
 refine wpAny_Call_Name_kw (hf A c s _ _ Rm S ?_)
 refine callWith_function (o := o) (fd := fd) ?_
 cases es with
 | nil => exact absurd rfl hne
 | cons e₁ es =>
  simp only [List.all_cons, Bool.and_eq_true] at hp
  rw [starEach_plain hp.1]
  refine evalArgs_plain ?_
  have key := h A pos c s (fun vs s' => (s'.heap.get? fa = some o ∧ o.data = .func fd) ∧ wpAny (model pr w) A (call (.ref fa) ([] ++ vs) []) Q E s') E Rm S fun vs s₁ z₁ a₁ => by
   have S₁ := S.kps z₁
   refine ⟨⟨S₁.base.get _ _ F.ne (fun z => z) ho, hd⟩, ?_⟩
   refine hF A s₁ Q E vs [] Rm S₁.base (a₁.weak fun _ n => n) .nil fun v s₂ z₂ a₂ => ?_
   refine q v s₂ (z₁.trans z₂) (a₂.map fun a o n e => ⟨e, ?_⟩)
   exact S₁.newN (md := .fresh) n.2 (by intro z; cases z)
  rw [starEach_plain hp.1] at key
  exact key
end
section
variable {w : World} {k : Nat} {sc : Scope} {ρ ρ' : Rho} {md m₁ m₂ : Md} {d d₁ d₂ : D} {e e₁ e₂ : PySem.Expr} {pos p₁ p₂ p₃ : Pos} {st : Stmt} {ss : List Stmt} {K K' : Rho → Prop} {R R' : D → Prop} {c : Cx} {s : Shared} {x : Str} {ds : List D} {h h' : Heap}
theorem Holds.same {c' : Cx} {l : LV} (H : Holds c h x l) (hk : ∀ md : Md, md = .free ∨ md = .fresh → ∀ a o, c.N md a → h.get? a = some o → h'.get? a = some o ∧ c'.N md a) (hf : c'.f = c.f) (had : c'.ad = c.ad) (hF : c'.F = c.F)
  (hm : ∀ a, c.mu a → c'.mu a) (hP : ∀ xs : Array Value, c.mu (c.ad x) → h.PlainList (c.ad x) xs → h'.PlainList (c.ad x) xs) (hr : ∀ a o, c.N .ro a → h.get? a = some o → h'.get? a = some o ∧ c'.N .ro a) : Holds c' h' x l := by
 cases l with
 | dat fr d => obtain ⟨v, e, a⟩ := H; exact ⟨v, hf ▸ e, a.map (hk _ (by cases fr <;> simp [Md.of]))⟩
 | own sh ds =>
  obtain ⟨v, e, o, m, vs, p, a⟩ := H
  refine ⟨v, hf ▸ e, ?_, ?_, vs, ?_, a.map (hk _ (.inr rfl))⟩
  ·rw [had]
   cases sh with
   | false => exact o
   | true =>
    obtain ⟨a, i, ev, na, ni, hh⟩ := o
    obtain ⟨oa, oi, ea, _, _, _, ei, _⟩ := id hh
    exact ⟨a, i, ev, (hk .free (.inl rfl) a _ na ea).2, (hk .free (.inl rfl) i _ ni ei).2, hh.map (fun o eo => (hk .free (.inl rfl) a o na eo).1) (fun o eo => (hk .free (.inl rfl) i o ni eo).1)⟩
  ·rw [had, hF]; exact ⟨hm _ m.1, m.2⟩
  ·rw [had]; exact hP _ m.1 p
 | val v' d' => obtain ⟨e, a⟩ := H; exact ⟨hf ▸ e, a.map (hk _ (.inl rfl))⟩
 | ro d => obtain ⟨v, e, a⟩ := H; exact ⟨v, hf ▸ e, a.map hr⟩
 | hid => trivial
theorem St.hide {b : Addr} {o : Obj} (S : St w sc c h ρ) (p : Kp h h') (hb : h.get? b = none) (hb' : h'.get? b = some o) (hd : ¬ IsCode o) : St w sc { c with hid := fun a => c.hid a ∨ a = b } h' ρ := by
 have hT : b ≠ TF := by
  rintro rfl
  obtain ⟨o, vs, e, _⟩ := tab_here S.base
  exact no hb e
 have S' := S.kp p
 have kn : ∀ md : Md, md = .free ∨ md = .fresh → ∀ a o, c.N md a → h.get? a = some o → h'.get? a = some o ∧ Cx.N { c with hid := fun a => c.hid a ∨ a = b } md a := by
  intro md hmd a o n e
  have nb : a ≠ b := by exact (ne_oo hb e).symm
  rcases hmd with rfl | rfl
  ·exact ⟨p.get a o n.1 (fun z => z) e, n.1, fun q => q.elim (fun q => n.2 (.inl q)) fun q => q.elim (fun q => q.elim (fun q => n.2 (.inr (.inl q))) nb) fun q => n.2 (.inr (.inr q))⟩
  ·exact ⟨p.get a o n.1 (fun z => z) e, n.1, fun q => q.elim (fun q => n.2.1 (.inl q)) (fun q => q.elim (fun q => q.elim (fun q => n.2.1 (.inr (.inl q))) nb) fun q => n.2.1 (.inr (.inr q))), n.2.2⟩
 refine ⟨S'.base₀, S'.keep, S'.hM, S'.hF, S'.scp, S'.fn, S'.glo, S'.blt, S'.mutL, S'.mutC, S'.mutO, ⟨S'.vars.ns, fun x q => ?_, S'.vars.inj⟩, S'.nodup, fun x l q => (S.vals x l q).same kn rfl rfl rfl (fun _ z => z) (fun xs m pl => pl.at (fun o e => p.get _ o (S.mutO _ m).1 (fun z => z) e)) (fun a o n e => ⟨p.get a o n.1 (fun z => z) e, n.1, n.2.1, fun q => q.elim n.2.2 (by exact (ne_oo hb e).symm)⟩), S'.own, fun a q => ?_, fun a q => ?_, S.tabKp p rfl fun a q => by
  rcases q with q | (q | rfl) | q
  ·exact .inl (.inl q)
  ·exact .inl (.inr (.inl q))
  ·exact .inr ⟨o, hb, hb', hd⟩
  ·exact .inl (.inr (.inr q)), S.fr⟩
 ·obtain ⟨a, e, n, ic⟩ := S.vars.cel x q
  refine ⟨a, e, ⟨n.1, fun z => z.elim n.2 ?_⟩, ?_⟩
  ·rintro rfl; obtain ⟨o, eo, _⟩ := ic; exact no hb eo
  ·obtain ⟨o, eo, d⟩ := ic; exact ⟨o, p.get _ o n.1 (fun z => z) eo, d⟩
 ·rcases q with q | rfl
  ·exact S'.hidO a q
  ·refine ⟨hT, fun m => ?_, ?_, o, hb'⟩
   ·obtain ⟨_, ⟨o, e⟩, _⟩ := S.mutO a m; exact no hb e
   ·cases e : c.h₀.get? a with
    | none => rfl
    | some o =>
     by_cases m : c.M a
     ·obtain ⟨_, ⟨o, e'⟩, _⟩ := S.mutO a (S.hM a m).2; exact no hb e'
     ·exact no hb (S.keep.get a o hT m e)
 ·obtain ⟨n, m, z, o, e⟩ := S'.lkO a q
  exact ⟨n, m, fun y => y.elim z (by rintro rfl; obtain ⟨_, _, _, o, e⟩ := S.lkO _ q; exact no hb e), o, e⟩
theorem St.touch {b : Addr} {H : Addr → Prop} (S : St w sc c h ρ) (hb : c.hid b) (hk : ∀ a o, a ≠ b → h.get? a = some o → h'.get? a = some o) (hH : ∀ a, H a → c.hid a) (hH' : H b → ∃ o, h'.get? b = some o) : St w sc { c with hid := H } h' ρ := by
 obtain ⟨hT, nm, b0, ob, eb⟩ := S.hidO b hb
 have kn : ∀ md : Md, md = .free ∨ md = .fresh → ∀ a o, c.N md a → h.get? a = some o → h'.get? a = some o ∧ Cx.N { c with hid := H } md a := by
  intro md hmd a o n e
  rcases hmd with rfl | rfl
  ·exact ⟨hk a o (by rintro rfl; exact n.2 (.inr (.inl hb))) e, n.1, fun q => n.2 (q.imp id fun q => q.imp (hH a) id)⟩
  ·exact ⟨hk a o (by rintro rfl; exact n.2.1 (.inr (.inl hb))) e, n.1, fun q => n.2.1 (q.imp id fun q => q.imp (hH a) id), n.2.2⟩
 have hne : ∀ a, c.mu a → a ≠ b := fun a m => by rintro rfl; exact nm m
 refine ⟨S.base₀, ⟨fun a o n q e => ?_, fun o vs e d => ?_⟩, S.hM, S.hF, S.scp, S.fn, S.glo, S.blt, S.mutL, S.mutC, fun a m => ?_, ⟨?_, fun x q => ?_, S.vars.inj⟩, S.nodup, fun x l q => (S.vals x l q).same kn rfl rfl rfl (fun _ z => z) (fun xs m pl => pl.at fun o e => hk _ o (hne _ m) e) (fun a o n e => ⟨hk a o (by rintro rfl; exact n.2.2 hb) e, n.1, n.2.1, fun q => n.2.2 (hH a q)⟩), S.own, fun a q => ?_, fun a q => ?_, S.tabBut hk (.inr (.inl hb)) hT rfl (fun a q => q.imp id fun q => q.imp (hH a) id), S.fr⟩
 ·exact hk a o (by exact (ne_oo b0 e).symm) (S.keep.get a o n q e)
 ·obtain ⟨more, e'⟩ := S.keep.tab o vs e d
  exact ⟨more, hk _ _ (Ne.symm hT) e'⟩
 ·obtain ⟨n, ⟨o, e⟩, r⟩ := S.mutO a m
  exact ⟨n, ⟨o, hk a o (hne a m) e⟩, r⟩
 ·obtain ⟨m, n, e⟩ := S.vars.ns
  exact ⟨m, n.at' fun o eo => hk _ o (hne _ S.mutL) eo, e⟩
 ·obtain ⟨a, e, n, ⟨o, eo, d⟩⟩ := S.vars.cel x q
  exact ⟨a, e, ⟨n.1, fun z => n.2 (hH a z)⟩, o, hk a o (by rintro rfl; exact n.2 hb) eo, d⟩
 ·obtain ⟨n, m, z, o, e⟩ := S.hidO a (hH a q)
  by_cases ea : a = b
  ·subst ea; obtain ⟨o', e'⟩ := hH' q; exact ⟨n, m, z, o', e'⟩
  ·exact ⟨n, m, z, o, hk a o ea e⟩
 ·obtain ⟨n, m, z, o, e⟩ := S.lkO a q
  exact ⟨n, m, fun y => z (hH a y), o, hk a o (by rintro rfl; exact z hb) e⟩
noncomputable def ItAt (w : World) (c : Cx) (fz : Bool) (s₁ s₂ : Shared) (I : Addr) (md : Md) (ds : List D) : Prop :=
 ∃ (fp : List Addr) (P : Nat → Value → Prop) (T : Nat → Heap → Prop), s₁.heap.get? I = none ∧ Kps s₁ s₂ ∧
  (∀ A : Around, A.handled = none → Walks pr w A I fp [I] ds.length P T) ∧ T 0 s₂.heap ∧ (∀ i h, T i h → ∃ o, h.get? I = some o ∧ ¬ IsCode o) ∧
  (∀ b ∈ fp, b = I ∨ (b ≠ TF ∧ (fz = true → ¬ c.mu b ∧ ¬ c.hid b) ∧ ∃ o, s₁.heap.get? b = some o)) ∧
  (∀ i v, P i v → ∃ d, ds[i]? = some d ∧ At s₁.heap (c.N md) v d) ∧
  (∀ (A : Around) (i : Nat) (s : Shared) elts n pos v (Q : Unit → Shared → Prop) E, T i s.heap → Q () s → wpAny (model pr w) A (letOwnedTupleGo (.Tuple elts n pos) (.ref I) v) Q E s)
noncomputable def ItOK (w : World) (k : Nat) (sc : Scope) (ρ : Rho) (fz : Bool) (md : Md) (e : PySem.Expr) (ds : List D) : Prop :=
 ∀ (A : Around) (c : Cx) (s : Shared) (Q : Value → Shared → Prop) (E : Value → Shared → Prop), Room A k → St w sc c s.heap ρ →
  (∀ I s₁ s₂, Kps s s₁ → ItAt w c fz s₁ s₂ I md ds → Q (.ref I) s₂) → wpAny (model pr w) A (eval e c.env) (fun x s' => wpAny (model pr w) A (pyIter x) Q E s') E s
noncomputable def Bd (w : World) (k : Nat) (sc : Scope) (md : Md) (target : PySem.Expr) (d : D) (ρ ρ' : Rho) : Prop :=
 ∀ (A : Around) (c : Cx) (s : Shared) (v : Value) (Q : Unit → Shared → Prop) (E : Value → Shared → Prop), Room A k → St w sc c s.heap ρ → At s.heap (c.N md) v d →
  (∀ c' s', Ext c s c' s' → St w sc c' s'.heap ρ' → Q () s') → wpAny (model pr w) A (assign target c.env v) Q E s
theorem Ext.touch {c' : Cx} {s s' s'' : Shared} {b : Addr} (X : Ext c s c' s') (hb : s.heap.get? b = none) (hT : b ≠ TF) (hk : ∀ a o, a ≠ b → s'.heap.get? a = some o → s''.heap.get? a = some o) (sh : ∃ h t, s'' = { s' with heap := h, toks := t }) : Ext c s c' s'' where
 env := X.env
 h₀ := X.h₀
 M := X.M
 F := X.F
 hid := X.hid
 lk := X.lk
 mono := X.mono
 new := X.new
 kp := ⟨fun a o n z e => hk a o (by exact (ne_oo hb e).symm) (X.kp.get a o n z e), fun o vs e d => let ⟨m, e'⟩ := X.kp.tab o vs e d; ⟨m, hk _ _ (Ne.symm hT) e'⟩⟩
 sh := by obtain ⟨h, t, rfl⟩ := X.sh; obtain ⟨h', t', rfl⟩ := sh; exact ⟨h', t', rfl⟩
theorem Ext.hide {c' : Cx} {s s' : Shared} {H : Addr → Prop} (X : Ext { c with hid := H } s c' s') : Ext c s { c' with hid := c.hid } s' := ⟨X.env, X.h₀, X.M, X.F, rfl, X.lk, X.mono, X.new, X.kp, X.sh⟩
theorem es_for {target : PySem.Expr} {body : List Stmt} (ρo : Nat → Rho) (hit : ItOK w k sc ρ true md e ds) (h0 : Weak ρ (ρo 0))
  (step : ∀ i d, ds[i]? = some d → ∃ ρb, Bd w k sc md target d (ρo i) ρb ∧ Ex w k sc ρb body (fun r => Weak r (ρo (i + 1))) R) (hK : K (ρo ds.length)) (hm : md.le .free = true := by rfl)
  (hs : ∀ env x, foldedSetIterable e env x = pure x := by intro _ _; rfl) (ht : (∀ I v, letOwnedTupleGo target (.ref I) v = pure ()) ∨ ∃ elts n p, target = .Tuple elts n p := by first | exact .inl (fun _ _ => rfl) | exact .inr ⟨_, _, _, rfl⟩) :
  Es w k sc ρ (.For target e body [] pos) K R := fun A c s Q E Rm S q r => by
 refine wpAny_For (hit A c s _ _ Rm S fun I s₁ s₂ z₁ it => ?_) (hs _)
 refine bc fun gG => ?_
 obtain ⟨fp, P, T, hn, z₂, W, hT0, hTI, hfp, hP, hgo⟩ := it
 have S₁ := S.kps z₁
 obtain ⟨oI, eI, cI⟩ := hTI 0 _ hT0
 have neT : I ≠ TF := by exact ne_TF S₁.base hn
 have SI : St w sc { c with hid := fun a => c.hid a ∨ a = I } s₂.heap (ρo 0) := (S₁.hide z₂.kp hn eI cI).weak h0
 obtain ⟨cI, hcI⟩ : ∃ cI : Cx, cI = { c with hid := fun a => c.hid a ∨ a = I } := ⟨_, rfl⟩
 refine gG ?_; clear gG
 rw [← hcI] at SI
 have hidcI : cI.hid = fun a => c.hid a ∨ a = I := by rw [hcI]
 have mucI : cI.mu = c.mu := by rw [hcI]
 have envcI : cI.env = c.env := by rw [hcI]
 have FcI : cI.F = c.F := by rw [hcI]
 have lkcI : cI.lk = c.lk := by rw [hcI]
 have WA := W A Rm.hh
 have Hc : ∀ a, c.hid a → a ≠ I := fun a q => by rintro rfl; obtain ⟨_, _, _, o, e⟩ := S₁.hidO a q; exact no hn e
 refine codeAny_forLoop_any (fun n s' => ∃ i c', i ≤ ds.length ∧ n = ds.length - i ∧ Ext cI s₁ c' s' ∧ St w sc c' s'.heap (ρo i) ∧ T i s'.heap) (fun n s' ⟨i, c', hi, hn', X, S', hT⟩ => ?_) ds.length
  ⟨0, _, Nat.zero_le _, rfl, .kps z₂, SI, hT0⟩
 have hidI : c'.hid I := by rw [X.hid, hidcI]; exact .inr rfl
 rcases Nat.lt_or_eq_of_le hi with hi | rfl
 ·refine WA.item i s' _ _ hi hT fun v h' tk hv hT' hk => ?_
  have hk' : ∀ a o, a ≠ I → s'.heap.get? a = some o → h'.get? a = some o := fun a o n e => hk a o (by simpa using n) e
  have X₂ : Ext cI s₁ c' { s' with heap := h', toks := tk } := X.touch hn neT hk' ⟨_, _, rfl⟩
  have S₂ : St w sc c' h' (ρo i) := by
   have := S'.touch hidI hk' (H := c'.hid) (fun _ z => z) (fun _ => (hTI _ _ hT').imp fun _ z => z.1)
   exact this
  refine bc fun gG => ?_
  obtain ⟨d, hd, av⟩ := hP i v hv
  obtain ⟨ρb, hb, hx⟩ := step i d hd
  refine gG ?_; clear gG
  have av' : At h' (c'.N md) v d := by
   refine Ext.at X₂ hm ((av.here).map fun a o n e => ⟨e, ?_⟩)
   have na : a ≠ I := by exact (ne_oo hn e).symm
   have := n.1
   have nb : ¬ c.bar a → ¬ cI.bar a := fun z q => z (by unfold Cx.bar at q ⊢; rw [hidcI, mucI, lkcI] at q; exact q.imp id fun q => q.imp (fun q => q.resolve_right na) id)
   cases md with
   | flat => exact this
   | fresh => exact ⟨this.1, nb this.2.1, FcI ▸ this.2.2⟩
   | free => exact ⟨this.1, nb this.2⟩
   | new => cases hm
   | ro => cases hm
   | any => cases hm
  have key : wpAny (model pr w) A (assign target c.env v) (fun _ s₂ => wpAny (model pr w) A (execs body c.env) (fun f s₃ => match f with
      | .next | .cont => ∃ m, m < n ∧ ∃ i c', i ≤ ds.length ∧ m = ds.length - i ∧ Ext cI s₁ c' s₃ ∧ St w sc c' s₃.heap (ρo i) ∧ T i s₃.heap
      | .brk => Q .next s₃
      | .ret v => Q (.ret v) s₃) (notedBy (model pr w) A c.env fun e s' => cameBackBy (model pr w) A c.env E e s') s₂) (notedBy (model pr w) A c.env fun e s' => cameBackBy (model pr w) A c.env E e s') { s' with heap := h', toks := tk } := by
   have ev : c.env = c'.env := (X.env.trans envcI).symm
   rw [ev]
   refine hb A c' { s' with heap := h', toks := tk } v _ _ Rm S₂ av' fun c₃ s₃ X₃ S₃ => ?_
   rw [← X₃.env]
   refine hx A c₃ s₃ _ _ Rm S₃ (fun c₄ s₄ ρ₄ X₄ S₄ k₄ => ?_) (fun c₄ s₄ ρ₄ u d' X₄ S₄ a₄ r₄ => ?_)
   ·have X₅ := X₃.trans X₄
    refine ⟨ds.length - (i + 1), by lia, i + 1, c₄, hi, rfl, X₂.trans X₅, S₄.weak k₄, WA.frame (i + 1) h' _ hT' fun b hb o e => ?_⟩
    refine X₅.kp.get b o ?_ ?_ e
    ·rcases hfp b hb with rfl | ⟨n, _⟩
     ·exact neT
     ·exact n
    ·rcases hfp b hb with rfl | ⟨n, nm, o', e'⟩
     ·exact (S₂.hidO _ hidI).2.1
     ·intro q
      rcases X₂.new b q with q | ⟨q, _⟩
      ·exact (nm rfl).1 (mucI ▸ q)
      ·exact no q e'
   ·have X₅ := X₂.trans (X₃.trans X₄)
    have h4 : c₄.hid I := by rw [X₅.hid, hidcI]; exact .inr rfl
    have S₅ := S₄.touch h4 (h' := s₄.heap) (H := c.hid) (fun _ _ _ e => e) (fun a q => by rw [X₅.hid, hidcI]; exact .inl q) fun q => absurd rfl (Hc _ q)
    exact r _ s₄ ρ₄ u d' ((Ext.kps z₁).trans (Ext.hide (hcI ▸ X₅))) S₅ (a₄.weak fun _ n => n) r₄
  rcases ht with ht | ⟨elts, m, p, rfl⟩
  ·show wpAny _ _ (letOwnedTupleGo target (.ref I) v) _ _ _
   rw [ht]
   exact wpAny_pure key
  ·exact hgo A (i + 1) _ elts m p v _ _ hT' key
 ·refine WA.done s' _ _ hT fun h' tk hk => ?_
  have hk' : ∀ a o, a ≠ I → s'.heap.get? a = some o → h'.get? a = some o := fun a o n e => hk a o (by simpa using n) e
  have X₂ : Ext cI s₁ c' { s' with heap := h', toks := tk } := X.touch hn neT hk' ⟨_, _, rfl⟩
  have S₂ := S'.touch hidI hk' (H := c.hid) (fun a q => by rw [X.hid, hidcI]; exact .inl q) fun q => absurd rfl (Hc _ q)
  exact wpAny_execs_nil (q _ _ _ ((Ext.kps z₁).trans (Ext.hide (hcI ▸ X₂))) S₂ hK)
end
section
variable {w : World} {k : Nat} {sc : Scope} {ρ ρ' ρ'' : Rho} {md m₁ m₂ : Md} {d d₁ d₂ : D} {e e₁ e₂ : PySem.Expr} {pos p₁ p₂ p₃ : Pos} {c : Cx} {s : Shared} {x y : Str} {ds : List D}
theorem bd_name {fr : Bool} (u : Upd ρ x (.dat fr d) ρ') (hx : isStore sc x = true := by kernel_rfl) (hm : up md (Md.of fr) d = true := by rfl) : Bd w k sc md (.Name x p₁) d ρ ρ' := fun A c s v Q E Rm S a q => by
 show wpAny _ _ (do standAt p₁; bindName c.env x v) _ _ _
 refine wpAny_bind (wpAny_standAt (wpAny_bindName (store S hx fun h' tk z => q _ _ (z.ext S tk) ?_)))
 exact z.st S u (by rintro fr' d' e'; cases e'; exact a.up hm) (by rintro sh ds e'; cases e') (by rintro _ _ e'; cases e') (by rintro sh ds e'; cases e')
theorem bd_pair {f₁ f₂ : Bool} {n : Nat} (u : Upd ρ x (.dat f₁ d₁) ρ') (u' : Upd ρ' y (.dat f₂ d₂) ρ'') (hx : isStore sc x = true := by kernel_rfl) (hy : isStore sc y = true := by kernel_rfl) (hm : up md (Md.of f₁) d₁ = true := by rfl) (hm' : up md (Md.of f₂) d₂ = true := by rfl) (hf : md.le .free = true := by rfl) :
  Bd w k sc md (.Tuple [.Name x p₁, .Name y p₂] n p₃) (.tup [d₁, d₂]) ρ ρ'' := fun A c s v Q E Rm S a q => by
 refine a.cT fun T vs hn ht r => ?_
 cases r with
 | @cons v₁ _ _ _ a₁ r =>
  cases r with
  | @cons v₂ _ _ _ a₂ r =>
   cases r
   refine wpAny_assign_Tuple Rm.hh ht rfl rfl fun h' he => ?_
   have P : Kps s { s with heap := h' } := .keeps fun b o e => he b o (Nat.ne_of_lt (Heap.lt_size e)) e
   have S' := S.kps P
   have b₁ := bd_name (w := w) (k := k) (p₁ := p₁) u hx hm A c { s with heap := h' } v₁ (fun _ s' => wpAny (model pr w) A (assignInOrder [assign (.Name y p₂) c.env] [v₂]) Q E s') E Rm S' (a₁.kps P) fun c₁ s₁ X₁ S₁ => ?_
   ·show wpAny _ _ (do holding [v₂] (assign (.Name x p₁) c.env v₁); assignInOrder [assign (.Name y p₂) c.env] [v₂]) _ _ _
    exact wpAny_bind (wpAny_holding b₁)
   ·show wpAny _ _ (do holding [] (assign (.Name y p₂) c.env v₂); assignInOrder [] []) _ _ _
    refine wpAny_bind (wpAny_holding ?_)
    rw [← X₁.env]
    refine bd_name (w := w) (k := k) u' hy hm' A c₁ s₁ v₂ _ E Rm S₁ (X₁.at hf (a₂.kps P)) fun c₂ s₂ X₂ S₂ => ?_
    exact wpAny_pure (q _ _ (((Ext.kps P).trans X₁).trans X₂) S₂)
theorem es_pair {f₁ f₂ : Bool} {n : Nat} {R : D → Prop} (h : Ev w k sc ρ md e (.tup [d₁, d₂])) (u : Upd ρ x (.dat f₁ d₁) ρ') (u' : Upd ρ' y (.dat f₂ d₂) ρ'') (hx : isStore sc x = true := by kernel_rfl) (hy : isStore sc y = true := by kernel_rfl) (hm : up md (Md.of f₁) d₁ = true := by rfl) (hm' : up md (Md.of f₂) d₂ = true := by rfl) (hf : md.le .free = true := by rfl)
  (hs : ∀ env, swapsWithSole [.Tuple [.Name x p₁, .Name y p₂] n p₃] e pos.line env = pure false := by intro _; rfl) (hw : ∀ env, swappedStores [.Tuple [.Name x p₁, .Name y p₂] n p₃] e env = pure none := by intro _; rfl) :
  Es w k sc ρ (.Assign [.Tuple [.Name x p₁, .Name y p₂] n p₃] e pos) (fun r => r = ρ'') R := fun A c s Q E Rm S q r =>
 Assign_Tuple (h A c s _ _ Rm S fun v s₁ z₁ a₁ => bd_pair u u' hx hy hm hm' hf A c s₁ v _ E Rm (S.kps z₁) a₁ fun c' s' X S' => q c' s' _ ((Ext.kps z₁).trans X) S' rfl) (hs _) (hw _)
theorem go_list {A : Around} {I l : Addr} {i : Nat} {elts n} {v : Value} {Q : Unit → Shared → Prop} {E : Value → Shared → Prop} (hit : s.heap.IsListIter I l i) (q : Q () s) : wpAny (model pr w) A (letOwnedTupleGo (.Tuple elts n pos) (.ref I) v) Q E s := by
 cases v with
 | ref T => exact wpAny_letOwnedTupleGo_listiter hit q
 | _ => exact wpAny_pure q
theorem it_list {fz : Bool} (h : Ev w k sc ρ md e (.lst ds)) (hf : (fz = true → md.le .free = true) := by intro _; rfl) : ItOK w k sc ρ fz md e ds := fun A c s Q E Rm S q => by
 refine h A c s _ _ Rm S fun v s₁ z₁ a₁ => ?_
 have S₁ := S.kps z₁
 refine a₁.cL fun l vs hn i r => ?_
 obtain ⟨o, ho, hc, n, hd⟩ := id i
 refine wpAny_pyIter_list i (q _ s₁ _ z₁ ?_)
 have hlt : l ≠ s₁.heap.objs.size := Nat.ne_of_lt (Heap.lt_size ho)
 refine ⟨[s₁.heap.objs.size, l], fun i v => vs.toArray[i]? = some v, fun i h => h.IsListIter s₁.heap.objs.size l i ∧ h.IsList l vs.toArray, get_end _, .push s₁ _ s₁.toks, fun A' hA => ?_, ⟨⟨_, Heap.get?_push_size _ rfl, rfl, rfl⟩, ⟨o, Heap.get?_push_of_some _ ho, hc, n, hd⟩⟩, fun i h hT => ?_, fun b hb => ?_, fun i v hv => ?_, fun A' i s elts n pos v Q E hT q => go_list hT.1 q⟩
 ·have W := Walks.list (prog := pr) (w := w) hA s₁.heap.objs.size l hlt vs.toArray
  have e : vs.toArray.size = ds.length := by rw [List.size_toArray]; exact r.length
  rw [← e]; exact W
 ·obtain ⟨o, e, _, d⟩ := hT.1; exact ⟨o, e, fun ⟨ws, t, z, y⟩ => by rw [d] at z; cases z; cases y⟩
 ·simp only [List.mem_cons, List.not_mem_nil, or_false] at hb
  rcases hb with rfl | rfl
  ·exact .inl rfl
  ·refine .inr ⟨hn.ne, fun z => ?_, o, ho⟩
   have := Cx.N.le (hf z) hn
   exact ⟨fun m => this.2 (.inl m), fun m => this.2 (.inr (.inl m))⟩
 ·have hv' : vs.toArray[i]? = some v := hv
  rw [List.getElem?_toArray] at hv'
  exact r.get' hv'
theorem it_str {fz : Bool} (h : Ev w k sc ρ md e (.str x)) : ItOK w k sc ρ fz .flat e (x.cps.toList.map fun n => .str ⟨#[n]⟩) := fun A c s Q E Rm S q => by
 refine h A c s _ _ Rm S fun v s₁ z₁ a₁ => ?_
 refine a₁.cS fun t => ?_
 have fin : ∀ ty : String, (∀ A' : Around, A'.handled = none → Walks pr w A' s₁.heap.objs.size [s₁.heap.objs.size] [s₁.heap.objs.size] x.cps.size (SignAt x) (fun i h => h.IsStrIter s₁.heap.objs.size ty x t i)) → (∀ (A' : Around) i (s : Shared) elts n pos v (Q : Unit → Shared → Prop) E, s.heap.IsStrIter s₁.heap.objs.size ty x t i → Q () s → wpAny (model pr w) A' (letOwnedTupleGo (.Tuple elts n pos) (.ref s₁.heap.objs.size) v) Q E s) →
   Q (.ref s₁.heap.objs.size) { s₁ with heap := s₁.heap.push { cls := .type ty, data := .fields #[.str x t, .int 0 0] } } := fun ty W g => by
  refine q _ s₁ _ z₁ ⟨[s₁.heap.objs.size], SignAt x, fun i h => h.IsStrIter s₁.heap.objs.size ty x t i, get_end _, .push s₁ _ s₁.toks, fun A' hA => ?_, ⟨_, Heap.get?_push_size _ rfl, rfl, rfl⟩, fun i h hT => ?_, fun b hb => ?_, fun i v hv => ?_, g⟩
  ·have e : x.cps.size = (x.cps.toList.map fun n => D.str ⟨#[n]⟩).length := by simp
   rw [← e]; exact W A' hA
  ·obtain ⟨o, e, _, d⟩ := hT; exact ⟨o, e, fun ⟨ws, t, z, y⟩ => by rw [d] at z; cases z; cases y⟩
  ·exact .inl (by simpa using hb)
  ·obtain ⟨n, u, e, rfl⟩ := hv
   exact ⟨.str ⟨#[n]⟩, by rw [List.getElem?_map, ← Array.getElem?_toList] at *; rw [e]; rfl, .str _ _⟩
 have go : ∀ ty : String, (["enumerate", "zip", "dict_itemiterator", "dict_reverseitemiterator", "odict_iterator", "itertools.zip_longest", "itertools.pairwise"].contains ty) = false → ∀ (A' : Around) i (s : Shared) elts n pos v (Q : Unit → Shared → Prop) E, s.heap.IsStrIter s₁.heap.objs.size ty x t i → Q () s → wpAny (model pr w) A' (letOwnedTupleGo (.Tuple elts n pos) (.ref s₁.heap.objs.size) v) Q E s := fun ty ht A' i s elts n pos v Q E ⟨o, ho, hc, hd⟩ q => by
  cases v with
  | ref T =>
   unfold letOwnedTupleGo
   refine wpAny_bind (wpAny_load ho ?_)
   rw [hc, hd]
   dsimp only
   rw [ht]
   exact wpAny_pure q
  | _ => exact wpAny_pure q
 cases ha : x.cps.all (· < 128)
 ·exact wpAny_pyIter_wide ha (fin _ (fun A' hA => Walks.strWide hA _ x t) (go _ (by decide)))
 ·exact wpAny_pyIter_ascii ha (fin _ (fun A' hA => Walks.strAscii hA _ x t) (go _ (by decide)))
theorem it_range {fz : Bool} {n : Int} {f : Str} (hf : EvV w k sc ρ (.Name f p₁) (.type "range")) (h : Ev w k sc ρ md e (.int n)) (h0 : 0 ≤ n) (h1 : n < 2 ^ 31) (hp : plainE e = true := by rfl) : ItOK w k sc ρ fz .flat (.Call (.Name f p₁) [e] [] pos) ((List.range n.toNat).map fun i => .int (i : Nat)) := fun A c s Q E Rm S q => by
 refine wpAny_Call_Name_kw (hf A c s _ _ Rm S ?_)
 have hs : starEach [e] c.env = [(false, eval e c.env)] := starEach_plain hp
 show wpAny _ A (callWith pos (.type "range") [] (backTo pos (starEach [e] c.env)) []) _ _ _
 refine Pv.callWith_type1 (wpAny_items_cons (h A c s _ _ Rm S fun v s₁ z₁ a₁ => wpAny_items_nil ?_) hs) hs rfl
 refine a₁.cI fun t => ?_
 refine call_range_1 ?_
 have S₁ := S.kps z₁
 let s₂ : Shared := { s₁ with heap := s₁.heap.push { cls := .type "range", data := .fields #[.int 0 s₁.toks, .int n t, .int 1 (s₁.toks + 1)] }, toks := s₁.toks + 1 + 1 }
 have z₂ : Kps s₁ s₂ := .push _ _ _
 have hr : IsRange s₂.heap s₁.heap.objs.size 0 n 1 s₁.toks t (s₁.toks + 1) := Heap.get?_push_size _ rfl
 have sz : Builtin.Range.rangeSize 0 n 1 = (n.toNat : Int) := by rw [rangeSize_nat]; simp
 refine wpAny_pyIter_range hr (by
  have : Builtin.Range.rangeSize 0 n 1 = n := by rw [sz]; lia
  unfold Builtin.Range.small Builtin.Range.rangeFitsLong
  rw [this]
  simp only [Bool.and_eq_true, Bool.or_eq_true, decide_eq_true_eq, beq_iff_eq]
  refine ⟨⟨⟨⟨?_, ?_⟩, ?_⟩, ?_⟩, .inr ?_⟩ <;> simp <;> lia) (q _ s₂ _ (z₁.trans z₂) ?_)
 refine ⟨[s₂.heap.objs.size], fun i v => i < n.toNat ∧ ∃ t, v = .int (0 + i * 1) t, fun i h => IsRangeIter h s₂.heap.objs.size (0 + (i : Nat) * 1) ((n.toNat : Int) - (i : Nat)) 1, get_end _, .push _ _ _, fun A' hA => ?_, ?_, fun i h hT => ⟨_, hT, fun ⟨ws, t, z, y⟩ => by cases z; cases y⟩, fun b hb => .inl (List.mem_singleton.mp hb), fun i v hv => ?_, ?_⟩
 ·have e : n.toNat = ((List.range n.toNat).map fun i => D.int (i : Nat)).length := by simp
  rw [← e]
  exact (Walks.range (prog := pr) (w := w) hA s₂.heap.objs.size 0 1 n.toNat).bound
 ·have g : IsRangeIter (s₂.heap.push { cls := .type "range_iterator", data := .fields #[rawInt 0, rawInt (Builtin.Range.rangeSize 0 n 1), rawInt 1] }) s₂.heap.objs.size 0 n.toNat 1 := by
   unfold IsRangeIter
   rw [sz]
   exact Heap.get?_push_size _ rfl
  have e1 : (0 : Int) + ((0 : Nat) : Int) * 1 = 0 := by lia
  have e2 : (n.toNat : Int) - ((0 : Nat) : Int) = n.toNat := by lia
  show IsRangeIter _ _ ((0 : Int) + ((0 : Nat) : Int) * 1) ((n.toNat : Int) - ((0 : Nat) : Int)) 1
  rw [e1, e2]
  exact g
 ·obtain ⟨hi, t, rfl⟩ := hv
  refine ⟨.int (i : Nat), by simp [hi], ?_⟩
  have : (0 : Int) + i * 1 = i := by lia
  rw [this]; exact .int _ _
 ·intro A' i s elts n pos v Q E hT q
  cases v with
  | ref T =>
   unfold letOwnedTupleGo
   exact wpAny_bind (wpAny_load hT (wpAny_pure q))
  | _ => exact wpAny_pure q
end
noncomputable def IfsT (w : World) (k : Nat) (sc : Scope) (ρ : Rho) (ifs : List PySem.Expr) (b : Bool) : Prop :=
 ∀ (A : Around) (c : Cx) (s : Shared) (Q : Bool → Shared → Prop) (E : Value → Shared → Prop), Room A k → St w sc c s.heap ρ → (∀ s', Kps s s' → Q b s') →
  wpAny (model pr w) A (forIn ifs true fun t r => if r = true then do let ok ← isTrue t c.env (eval t c.env); pure (ForInStep.yield ok) else pure (ForInStep.yield r)) Q E s
theorem ifs_nil {w k sc ρ} : IfsT w k sc ρ [] true := fun A c s Q E R S q => wpAny_tests_nil (q s (.refl s))
theorem ifs_one {w k sc ρ e b} (h : Ts w k sc ρ e b) : IfsT w k sc ρ [e] b := fun A c s Q E R S q => wpAny_tests_one (h A c s _ _ R S q)
theorem take_flatMap {α β : Type} (f : α → List β) (l : List α) (i : Nat) (h : i < l.length) : (l.take (i + 1)).flatMap f = (l.take i).flatMap f ++ f l[i] := by
 rw [List.take_add_one, List.getElem?_eq_getElem h, List.flatMap_append]
 simp
theorem take_flatMap_le {α β : Type} (f : α → List β) (l : List α) (i : Nat) : ((l.take i).flatMap f).length ≤ (l.flatMap f).length := by
 conv => rhs; rw [← List.take_append_drop i l, List.flatMap_append, List.length_append]
 lia
section
variable {w : World} {k : Nat} {sc : Scope} {ρ ρ' : Rho} {md m₁ : Md} {c : Cx}
noncomputable def ItAt2 (w : World) (c : Cx) (s : Shared) (I : Addr) (md : Md) (ds : List D) : Prop :=
 ∃ (fp : List Addr) (P : Nat → Value → Prop) (T : Nat → Heap → Prop),
  (∀ A : Around, A.handled = none → Walks pr w A I fp [I] ds.length P T) ∧ T 0 s.heap ∧ (∀ i h, T i h → ∃ o, h.get? I = some o ∧ ¬ IsCode o) ∧
  (∀ b ∈ fp, b = I ∨ (b ≠ TF ∧ ¬ c.mu b ∧ ¬ c.hid b ∧ ∃ o, s.heap.get? b = some o)) ∧
  (∀ i v, P i v → ∃ d, ds[i]? = some d ∧ At s.heap (c.N md) v d) ∧
  (∀ (A : Around) (i : Nat) (s : Shared) elts n pos v (Q : Unit → Shared → Prop) E, T i s.heap → Q () s → wpAny (model pr w) A (letOwnedTupleGo (.Tuple elts n pos) (.ref I) v) Q E s)
theorem filterMap_flat {α β : Type} (out : α → Option β) (l : List α) : l.filterMap out = l.flatMap fun a => (out a).toList := by
 induction l with
 | nil => rfl
 | cons a l ih => rw [List.filterMap_cons, List.flatMap_cons, ← ih]; cases out a <;> rfl
noncomputable def Item (w : World) (sc : Scope) (ρ ρb : Rho) (md : Md) (A : Around) (B : Env → Sem Fin) (node : PySem.Expr) (j : Nat) (cJ : Cx) (s₀ : Shared) (I Dd : Addr) (rs : List D) : Prop :=
 ∀ (c₃ : Cx) (s₃ : Shared) (vs : List Value) (pre : List D) (R : Fin → Shared → Prop) (E : Value → Shared → Prop), Ext cJ s₀ c₃ s₃ → St w sc c₃ s₃.heap ρb → c₃.hid Dd → s₃.heap.PlainList Dd vs.toArray → AtL s₃.heap (c₃.N md) vs pre → pre.length + rs.length ≤ sizeLine →
  (∀ c₆ s₆ vs₆, Ext cJ s₀ c₆ s₆ → St w sc c₆ s₆.heap ρ → (∀ b o, b ≠ TF → b ≠ Dd → ¬ c₃.mu b → s₃.heap.get? b = some o → s₆.heap.get? b = some o) → (∀ a, c₆.mu a → c₃.mu a ∨ s₃.heap.get? a = none) → s₆.heap.PlainList Dd vs₆.toArray → AtL s₆.heap (c₆.N md) vs₆ (pre ++ rs) → R (.again (.compLoop node j (.ref I) (.ref Dd) c₃.env)) s₆) →
  wpAny (model pr w) A (B c₃.env) R E s₃
theorem comp_turns {α : Type} {l : List α} {g : α → D} {f : α → List D} {target elt : PySem.Expr} {gens : List Comprehension} {scope : Scope} {pos tp : Pos} {B : Env → Sem Fin} {j : Nat} {I Dd : Addr} {s₀ s₂ : Shared} {cJ cI : Cx} {A : Around} {Q : Result → Shared → Prop} {vs₀ : List Value} {rs₀ : List D} {H : Addr → Prop}
  (hturn : ∀ env, compTurn (.ListComp elt gens scope pos) j (.ref I) (.ref Dd) env = (do
   standAt tp
   match ← pyNext (.ref I) with
   | none => pure (.done .next)
   | some v =>
    letOwnedTupleGo target (.ref I) v
    assign target env v
    B env))
  (Rm : Room A k) (Y0 : Ext cJ s₀ cI s₂) (SI : St w sc cI s₂.heap ρ) (it : ItAt2 w cI s₂ I m₁ (l.map g)) (hm₁ : m₁.le .free = true) (hm : md.le .free = true)
  (hI : cI.hid I) (hI0 : s₀.heap.get? I = none) (hD : cI.hid Dd) (neD : Dd ≠ I) (hH : ∀ a, H a → cI.hid a) (hHI : ¬ H I)
  (P0 : s₂.heap.PlainList Dd vs₀.toArray) (A0 : AtL s₂.heap (cI.N md) vs₀ rs₀) (hz : rs₀.length + (l.flatMap f).length ≤ sizeLine)
  (step : ∀ a ∈ l, ∃ ρb, Bd w k sc m₁ target (g a) ρ ρb ∧ Item w sc ρ ρb md A B (.ListComp elt gens scope pos) j cJ s₀ I Dd (f a))
  (ht : (∀ I v, letOwnedTupleGo target (.ref I) v = pure ()) ∨ ∃ elts n p, target = .Tuple elts n p)
  (hQ : ∀ c' s' vs, Ext cJ s₀ c' s' → St w sc { c' with hid := H } s'.heap ρ → s'.heap.PlainList Dd vs.toArray → AtL s'.heap (Cx.N { c' with hid := H } md) vs (rs₀ ++ l.flatMap f) → (∀ b o, b ≠ TF → b ≠ I → b ≠ Dd → ¬ cI.mu b → s₂.heap.get? b = some o → s'.heap.get? b = some o) → (∀ a, c'.mu a → cI.mu a ∨ s₂.heap.get? a = none) → Q (.ok .next) s') :
  codeAny (model pr w) A (.compLoop (.ListComp elt gens scope pos) j (.ref I) (.ref Dd) cI.env) Q s₂ := by
 refine bc fun gG => ?_
 obtain ⟨fp, P, T, W, hT0, hTI, hfp, hP, hgo⟩ := it
 obtain ⟨neT, nmI, _, oI, eI⟩ := SI.hidO I hI
 refine gG ?_; clear gG
 have neDT : Dd ≠ TF := (SI.hidO _ hD).1
 have hlen : (l.map g).length = l.length := List.length_map _
 have WA := W A Rm.hh
 let Inv : Nat → Shared → Prop := fun n s' => ∃ i c' vs, i ≤ l.length ∧ n = l.length - i ∧ Ext cJ s₀ c' s' ∧ St w sc c' s'.heap ρ ∧ T i s'.heap ∧ s'.heap.PlainList Dd vs.toArray ∧ AtL s'.heap (c'.N md) vs (rs₀ ++ (l.take i).flatMap f) ∧
  (∀ b o, b ≠ TF → b ≠ I → b ≠ Dd → ¬ cI.mu b → s₂.heap.get? b = some o → s'.heap.get? b = some o) ∧ (∀ a, c'.mu a → cI.mu a ∨ s₂.heap.get? a = none)
 refine codeAny_loop rfl Inv (fun n s' ⟨i, c', vs, hi, hn', X, S', hT, hpl, hat, hZ, hM⟩ => ?_) l.length
  ⟨0, cI, vs₀, Nat.zero_le _, rfl, Y0, SI, hT0, P0, by simpa using A0, fun b o nT _ _ _ e => e, fun a q => .inl q⟩
 have hidJ : c'.hid = cI.hid := X.hid.trans Y0.hid.symm
 have hidI : c'.hid I := hidJ ▸ hI
 have hidD : c'.hid Dd := hidJ ▸ hD
 show wpAny _ A ((compTurn (.ListComp elt gens scope pos) j (.ref I) (.ref Dd) cI.env).onRaise (fun x => do noteFrame x cI.env; theTreesLotGoes x)) _ _ s'
 refine wpAny_noted ?_
 rw [hturn]
 refine wpAny_bind (wpAny_standAt (wpAny_bind ?_))
 rcases Nat.lt_or_eq_of_le hi with hi | rfl
 ·refine WA.item i s' _ _ (by rw [hlen]; exact hi) hT fun v h' tk hv hT' hk => ?_
  have lkJ : c'.lk = cI.lk := X.lk.trans Y0.lk.symm
  have FJ : c'.F = cI.F := X.F.trans Y0.F.symm
  have hk' : ∀ a o, a ≠ I → s'.heap.get? a = some o → h'.get? a = some o := fun a o n e => hk a o (by simpa using n) e
  have X₂ : Ext cJ s₀ c' { s' with heap := h', toks := tk } := X.touch hI0 neT hk' ⟨_, _, rfl⟩
  have S₂ : St w sc c' h' ρ := S'.touch hidI hk' (H := c'.hid) (fun _ z => z) (fun _ => (hTI _ _ hT').imp fun _ z => z.1)
  refine bc fun gG => ?_
  obtain ⟨d, hd, av⟩ := hP i v hv
  refine gG ?_; clear gG
  have hmem : l[i]? = some l[i] := List.getElem?_eq_getElem hi
  rw [List.getElem?_map, hmem] at hd
  cases hd
  refine bc fun gG => ?_
  obtain ⟨ρb, hb, hx⟩ := step l[i] (List.getElem_mem hi)
  refine gG ?_; clear gG
  have toC : ∀ a o, cI.N m₁ a → s₂.heap.get? a = some o → c'.N m₁ a := fun a o n e => by
   have n' := Cx.N.le hm₁ n
   have nb : ¬ c'.bar a := fun q => by
    rcases q with q | q | q
    ·rcases hM a q with q | q
     ·exact n'.2 (.inl q)
     ·exact no q e
    ·exact n'.2 (.inr (.inl (hidJ ▸ q)))
    ·exact n'.2 (.inr (.inr (lkJ ▸ q)))
   cases m₁ with
   | flat => exact n
   | fresh => exact ⟨n.1, nb, FJ ▸ n.2.2⟩
   | free => exact ⟨n.1, nb⟩
   | new => cases hm₁
   | ro => cases hm₁
   | any => cases hm₁
  have av' : At h' (c'.N m₁) v (g l[i]) := av.map fun a o n e => by
   have n' := Cx.N.le hm₁ n
   have nI : a ≠ I := fun q => n'.2 (.inr (.inl (q ▸ hI)))
   exact ⟨hk' a o nI (hZ a o n'.1 nI (fun z => n'.2 (.inr (.inl (z ▸ hD)))) (fun q => n'.2 (.inl q)) e), toC a o n e⟩
  have pl₂ : h'.PlainList Dd vs.toArray := hpl.at fun o e => hk' _ o neD e
  have at₂ : AtL h' (c'.N md) vs (rs₀ ++ (l.take i).flatMap f) := hat.map fun a o n e => ⟨hk' a o (fun z => (Cx.N.le hm n).2 (.inr (.inl (z ▸ hidI)))) e, n⟩
  have frameT : ∀ h₃ : Heap, (∀ b o, b ≠ TF → b ≠ Dd → ¬ c'.mu b → h'.get? b = some o → h₃.get? b = some o) → T (i + 1) h₃ := fun h₃ hk₃ => by
   refine WA.frame (i + 1) h' _ hT' fun b hb o e => ?_
   rcases hfp b hb with rfl | ⟨nT, nm, nh, o', e'⟩
   ·exact hk₃ b o neT (Ne.symm neD) (S₂.hidO _ hidI).2.1 e
   ·refine hk₃ b o nT (fun q => nh (q ▸ hD)) (fun q => ?_) e
    rcases hM b q with q | q
    ·exact nm q
    ·exact no q e'
  have key : wpAny (model pr w) A (assign target cI.env v >>= fun _ => B cI.env) (fun fin s' => match fin with
     | .done f => Q (.ok f) s'
     | .again c' => c' = .compLoop (.ListComp elt gens scope pos) j (.ref I) (.ref Dd) cI.env ∧ ∃ m, m < n ∧ Inv m s') (notedBy (model pr w) A cI.env fun e s' => Q (.error e) s') { s' with heap := h', toks := tk } := by
   rw [show cI.env = c'.env from Y0.env.trans X.env.symm]
   refine wpAny_bind (hb A c' { s' with heap := h', toks := tk } v _ _ Rm S₂ av' fun c₃ s₃ X₃ S₃ => ?_)
   rw [← X₃.env]
   have hsz := take_flatMap_le f l (i + 1)
   rw [take_flatMap f l i hi, List.length_append] at hsz
   refine hx c₃ s₃ vs _ _ _ (X₂.trans X₃) S₃ (by rw [X₃.hid]; exact hidD) (pl₂.at fun o e => X₃.kp.get _ o neDT (S₂.hidO _ hidD).2.1 e) (X₃.atL hm at₂) (by rw [List.length_append]; lia) fun c₆ s₆ vs₆ X₆ S₆ k₆ m₆ pl₆ at₆ => ?_
   have hkk : ∀ b o, b ≠ TF → b ≠ Dd → ¬ c'.mu b → h'.get? b = some o → s₆.heap.get? b = some o := fun b o nT nD nm e => k₆ b o nT nD (fun q => (X₃.new b q).elim nm fun q => no q.1 e) (X₃.kp.get b o nT nm e)
   have hZ' : ∀ b o, b ≠ TF → b ≠ I → b ≠ Dd → ¬ cI.mu b → s₂.heap.get? b = some o → h'.get? b = some o := fun b o nT nI nD nm e => hk' b o nI (hZ b o nT nI nD nm e)
   have hnew : ∀ a, a ≠ TF → h'.get? a = none → cI.mu a ∨ s₂.heap.get? a = none := fun a nT q => by
    by_cases hm1 : cI.mu a
    ·exact .inl hm1
    ·right
     cases e : s₂.heap.get? a with
     | none => rfl
     | some o =>
      exfalso
      refine bc fun gG => ?_
      obtain ⟨o', eo', _⟩ := hTI _ _ hT'
      obtain ⟨m, eo⟩ := pl₂
      refine gG ?_; clear gG
      exact no q (hZ' a o nT (ne_oo q eo') (ne_oo q eo) hm1 e)
   refine ⟨rfl, l.length - (i + 1), by lia, i + 1, c₆, vs₆, hi, rfl, X₆, S₆, frameT _ hkk, pl₆, ?_, fun b o nT nI nD nm e => ?_, fun a q => ?_⟩
   ·rw [take_flatMap f l i hi, ← List.append_assoc]; exact at₆
   ·refine hkk b o nT nD (fun q => ?_) (hZ' b o nT nI nD nm e)
    rcases hM b q with q | q
    ·exact nm q
    ·exact no q e
   ·rcases m₆ a q with q | q
    ·rcases X₃.new a q with q | ⟨q, nT⟩
     ·exact hM a q
     ·exact hnew a nT q
    ·by_cases q' : c'.mu a
     ·exact hM a q'
     ·have nT := ne_TF S₃.base q
      refine hnew a nT ?_
      cases e : h'.get? a with
      | none => rfl
      | some o => exact no q (X₃.kp.get a o nT q' e)
  rcases ht with ht | ⟨elts, m, p, rfl⟩
  ·refine wpAny_bind ?_
   rw [ht]
   exact wpAny_pure key
  ·exact wpAny_bind (hgo A (i + 1) _ elts m p v _ _ hT' key)
 ·refine WA.done s' _ _ (by rw [hlen]; exact hT) fun h' tk hk => ?_
  have hk' : ∀ a o, a ≠ I → s'.heap.get? a = some o → h'.get? a = some o := fun a o n e => hk a o (by simpa using n) e
  have X₂ : Ext cJ s₀ c' { s' with heap := h', toks := tk } := X.touch hI0 neT hk' ⟨_, _, rfl⟩
  have S₂ := S'.touch hidI hk' (H := H) (fun a q => hidJ ▸ hH a q) fun q => absurd q hHI
  refine wpAny_pure (hQ _ _ vs X₂ S₂ (hpl.at fun o e => hk' _ o neD e) ?_ (fun b o nT nI nD nm e => hk' b o nI (hZ b o nT nI nD nm e)) hM)
  rw [List.take_length] at hat
  refine hat.map fun a o n e => ⟨hk' a o (fun z => (Cx.N.le hm n).2 (.inr (.inl (z ▸ hidI)))) e, ?_⟩
  have nb : ¬ c'.bar a → ¬ Cx.bar { c' with hid := H } a := fun z q => z (q.imp id fun q => q.imp (fun q => hidJ ▸ hH a q) id)
  cases md with
  | flat => exact n
  | fresh => exact ⟨n.1, nb n.2.1, n.2.2⟩
  | free => exact ⟨n.1, nb n.2⟩
  | new => cases hm
  | ro => cases hm
  | any => cases hm
theorem item_ifs {ρb : Rho} {out : Option D} {node elt : PySem.Expr} {ifs : List PySem.Expr} {j : Nat} {I Dd : Addr} {s₀ : Shared} {cJ : Cx} {A : Around} (Rm : Room A k) (hm : md.le .free = true) (hD0 : s₀.heap.get? Dd = none) (hw : Weak ρb ρ)
  (hx : match out with
   | none => IfsT w k sc ρb ifs false
   | some r => IfsT w k sc ρb ifs true ∧ Ev w k sc ρb md elt r) :
  Item w sc ρ ρb md A (fun env => do
   let mut ok := true
   for t in ifs do
    if ok then ok ← isTrue t env (eval t env)
   if ok then
    (do let _ ← call (.builtin "list.append") [.ref Dd, ← eval elt env])
   again (.compLoop node j (.ref I) (.ref Dd) env)) node j cJ s₀ I Dd out.toList := fun c₃ s₃ vs pre R E X₃ S₃ hidD₃ pl₃ at₃ hz q => by
 have neDT : Dd ≠ TF := (S₃.hidO _ hidD₃).1
 have S₃' := S₃.weak hw
 cases out with
 | none =>
  refine wpAny_bind (hx A c₃ s₃ _ _ Rm S₃ fun s₄ z₄ => ?_)
  rw [if_neg (by decide)]
  refine wpAny_pure (q c₃ s₄ vs (X₃.trans (.kps z₄)) (S₃'.kps z₄) (fun b o nT _ _ e => z₄.kp.get b o nT (fun z => z) e) (fun _ q => .inl q) (pl₃.at fun o e => z₄.kp.get _ o neDT (fun z => z) e) ?_)
  simpa using at₃.kps z₄
 | some r =>
  refine wpAny_bind (hx.1 A c₃ s₃ _ _ Rm S₃ fun s₄ z₄ => ?_)
  rw [if_pos rfl]
  refine wpAny_bind (wpAny_bind (hx.2 A c₃ s₄ _ _ Rm (S₃.kps z₄) fun u s₅ z₅ a₅ => wpAny_bind ?_))
  have z := z₄.trans z₅
  have pl₅ : s₅.heap.PlainList Dd vs.toArray := pl₃.at fun o e => z.kp.get _ o neDT (fun z => z) e
  refine wpAny_list_append_plain pl₅ (fun h₆ pl₆ sb => wpAny_pure (wpAny_pure ?_)) (by
   have h1 : vs.length = pre.length := at₃.length
   have h2 : pre.length + 1 ≤ sizeLine := hz
   rw [List.size_toArray, h1]
   lia)
  rw [show vs.toArray.push u = (vs ++ [u]).toArray by simp] at pl₆
  have hk₆ : ∀ b o, b ≠ Dd → s₅.heap.get? b = some o → h₆.get? b = some o := fun b o nb e => (sb.2 b nb).trans e
  refine q c₃ { s₅ with heap := h₆ } (vs ++ [u]) ((X₃.trans (.kps z)).touch hD0 neDT hk₆ ⟨h₆, s₅.toks, rfl⟩) ?_ (fun b o nT nD _ e => hk₆ b o nD (z.kp.get b o nT (fun z => z) e)) (fun _ q => .inl q) pl₆ ?_
  ·exact (S₃'.kps z).touch hidD₃ hk₆ (H := c₃.hid) (fun _ q => q) fun _ => by obtain ⟨m, eo⟩ := pl₆; exact ⟨_, eo⟩
  ·have kk : ∀ a o, c₃.N md a → s₅.heap.get? a = some o → h₆.get? a = some o ∧ c₃.N md a := fun a o n e => ⟨hk₆ a o (fun z => (Cx.N.le hm n).2 (.inr (.inl (z ▸ hidD₃)))) e, n⟩
   exact ((at₃.kps z).map kk).append (.cons (a₅.map kk) .nil)
noncomputable def Last (elt : PySem.Expr) (gens : List Comprehension) (scope : Scope) (pos : Pos) (j : Nat) (target iter : PySem.Expr) (ifs : List PySem.Expr) : Prop := ∀ it acc env, compTurn (.ListComp elt gens scope pos) j it acc env = (do
  standAt iter.pos
  match ← pyNext it with
  | none => pure (.done .next)
  | some v =>
   letOwnedTupleGo target it v
   assign target env v
   let mut ok := true
   for t in ifs do
    if ok then ok ← isTrue t env (eval t env)
   if ok then
    (do let _ ← call (.builtin "list.append") [acc, ← eval elt env])
   again (.compLoop (.ListComp elt gens scope pos) j it acc env))
theorem comp_last {α : Type} {l : List α} {g : α → D} {out : α → Option D} {target iter elt : PySem.Expr} {ifs : List PySem.Expr} {gens : List Comprehension} {scope : Scope} {pos : Pos} {j : Nat} {I Dd : Addr} {s₀ s₂ : Shared} {cJ cI : Cx} {A : Around} {Q : Result → Shared → Prop} {vs₀ : List Value} {rs₀ : List D} {H : Addr → Prop}
  (hturn : Last elt gens scope pos j target iter ifs)
  (Rm : Room A k) (Y0 : Ext cJ s₀ cI s₂) (SI : St w sc cI s₂.heap ρ) (it : ItAt2 w cI s₂ I m₁ (l.map g)) (hm₁ : m₁.le .free = true) (hm : md.le .free = true)
  (hI : cI.hid I) (hI0 : s₀.heap.get? I = none) (hD : cI.hid Dd) (hD0 : s₀.heap.get? Dd = none) (neD : Dd ≠ I) (hH : ∀ a, H a → cI.hid a) (hHI : ¬ H I)
  (P0 : s₂.heap.PlainList Dd vs₀.toArray) (A0 : AtL s₂.heap (cI.N md) vs₀ rs₀) (hz : rs₀.length + l.length ≤ sizeLine)
  (step : ∀ a ∈ l, ∃ ρb, Bd w k sc m₁ target (g a) ρ ρb ∧ Weak ρb ρ ∧ match out a with
   | none => IfsT w k sc ρb ifs false
   | some r => IfsT w k sc ρb ifs true ∧ Ev w k sc ρb md elt r)
  (ht : (∀ I v, letOwnedTupleGo target (.ref I) v = pure ()) ∨ ∃ elts n p, target = .Tuple elts n p)
  (hQ : ∀ c' s' vs, Ext cJ s₀ c' s' → St w sc { c' with hid := H } s'.heap ρ → s'.heap.PlainList Dd vs.toArray → AtL s'.heap (Cx.N { c' with hid := H } md) vs (rs₀ ++ l.filterMap out) → (∀ b o, b ≠ TF → b ≠ I → b ≠ Dd → ¬ cI.mu b → s₂.heap.get? b = some o → s'.heap.get? b = some o) → (∀ a, c'.mu a → cI.mu a ∨ s₂.heap.get? a = none) → Q (.ok .next) s') :
  codeAny (model pr w) A (.compLoop (.ListComp elt gens scope pos) j (.ref I) (.ref Dd) cI.env) Q s₂ := by
 have e : l.filterMap out = l.flatMap fun a => (out a).toList := filterMap_flat ..
 refine comp_turns (f := fun a => (out a).toList) (B := fun env => do
   let mut ok := true
   for t in ifs do
    if ok then ok ← isTrue t env (eval t env)
   if ok then
    (do let _ ← call (.builtin "list.append") [.ref Dd, ← eval elt env])
   again (.compLoop (.ListComp elt gens scope pos) j (.ref I) (.ref Dd) env)) (fun env => hturn _ _ env) Rm Y0 SI it hm₁ hm hI hI0 hD neD hH hHI P0 A0 (by rw [← e]; have := List.length_filterMap_le out l; lia) (fun a ha => ?_) ht (e ▸ hQ)
 obtain ⟨ρb, hb, hw, hx⟩ := step a ha
 exact ⟨ρb, hb, item_ifs Rm hm hD0 hw hx⟩
end
noncomputable def relab (scope sc : Scope) : Scope :=
 { scope with names := scope.names.map fun (n, k) => if (k == .free && sc.kind == .function && sc.names.lookup n == some .cell) then (n, .cell) else (n, k) }
noncomputable def clo (env : Env) : List (Str × NameKind) → List (Str × Addr) → List (Str × Addr)
 | [], acc => acc
 | (n, k) :: r, acc => if k == .free then clo env r ((n, (env.cells.lookup n).getD 0) :: acc) else clo env r acc
theorem closure_eq (env : Env) (scope : Scope) (h : ∀ x, (x, NameKind.free) ∈ scope.names → (env.cells.lookup x).isSome = true) : closureFor scope env = pure (clo env scope.names []) := by
 have key : ∀ (l : List (Str × NameKind)) (acc : List (Str × Addr)), (∀ x, (x, NameKind.free) ∈ l → (env.cells.lookup x).isSome = true) →
   (forIn l acc fun (p : Str × NameKind) cs => (match p with
    | (name, kind) => if (kind == NameKind.free) = true then do
      let a ← cellOf env name
      pure (ForInStep.yield ((name, a) :: cs)) else pure (ForInStep.yield cs) : Sem (ForInStep (List (Str × Addr))))) = pure (clo env l acc) := by
  intro l
  induction l with
  | nil => intro acc _; rfl
  | cons p r ih =>
   intro acc hl
   obtain ⟨n, kd⟩ := p
   rw [List.forIn_cons, clo]
   by_cases hk : (kd == NameKind.free) = true
   ·have hkd : kd = .free := by simpa using hk
    subst hkd
    obtain ⟨a, ea⟩ := Option.isSome_iff_exists.mp (hl n (.head _))
    have hc : cellOf env n = pure a := by unfold cellOf; rw [ea]
    simp only [hk, if_true, hc, ea, Option.getD_some]
    exact ih _ fun x m => hl x (.tail _ m)
   ·simp only [hk, if_false, Bool.false_eq_true]
    exact ih _ fun x m => hl x (.tail _ m)
 have k := key scope.names [] h
 unfold closureFor
 exact (congrArg (fun m => m >>= fun cs => (pure cs : Sem (List (Str × Addr)))) k).trans rfl
theorem clo_some (env : Env) (x : Str) (a : Addr) (e : env.cells.lookup x = some a) : ∀ (l : List (Str × NameKind)) (acc : List (Str × Addr)), (x, NameKind.free) ∈ l ∨ acc.lookup x = some a → (clo env l acc).lookup x = some a
 | [], acc, h => by
  rcases h with h | h
  ·cases h
  ·exact h
 | (n, kd) :: r, acc, h => by
  rw [clo]
  by_cases hk : (kd == NameKind.free) = true
  ·rw [if_pos hk]
   refine clo_some env x a e r _ ?_
   by_cases hx : x = n
   ·right; subst hx; rw [List.lookup_cons, beq_self_eq_true, e]; rfl
   ·rcases h with h | h
    ·cases h with
     | head => exact absurd rfl hx
     | tail _ h => exact .inl h
    ·right; rw [List.lookup_cons, beq_eq_false_iff_ne.mpr hx]; exact h
  ·rw [if_neg hk]
   refine clo_some env x a e r _ ?_
   rcases h with h | h
   ·cases h with
    | head => exact absurd rfl hk
    | tail _ h => exact .inl h
   ·exact .inr h
theorem clo_free (env : Env) (x : Str) (b : Addr) : ∀ (l : List (Str × NameKind)) (acc : List (Str × Addr)), (clo env l acc).lookup x = some b → (x, NameKind.free) ∈ l ∨ acc.lookup x = some b
 | [], acc, h => .inr h
 | (n, kd) :: r, acc, h => by
  rw [clo] at h
  by_cases hk : (kd == NameKind.free) = true
  ·rw [if_pos hk] at h
   have hkd : kd = .free := by simpa using hk
   subst hkd
   rcases clo_free env x b r _ h with h | h
   ·exact .inl (.tail _ h)
   ·rw [List.lookup_cons] at h
    split at h
    ·rename_i he; rw [beq_iff_eq.mp he]; exact .inl (.head _)
    ·exact .inr h
  ·rw [if_neg hk] at h
   exact (clo_free env x b r _ h).imp (.tail _) id
noncomputable def capOf : LV → LV
 | .dat fr d => .dat fr d
 | .own false ds => .ro (.lst ds)
 | .own true ds => .ro (.hdr ds)
 | .val v d => .val v d
 | .ro d => .ro d
 | .hid => .hid
noncomputable def rhoC (caps : Rho) (locs : List Str) : Rho := caps.map (fun p => (p.1, capOf p.2)) ++ locs.map fun x => (x, LV.hid)
noncomputable def compOk (scope sc : Scope) (caps locs : List Str) : Bool :=
 scope.kind == .function && decide (scope.names.map (·.1)).Nodup && scope.names.all (fun x => x.2 != .cell) &&
 scope.names.all (fun x => x.2 != .free || (match sc.names.lookup x.1 with | some .cell => true | some .free => true | _ => false)) &&
 ((relab scope sc).names.lookup (Str.ofString ".0") == some .local) && decide (caps ++ locs).Nodup && caps.all (fun x => scope.names.lookup x == some .free) && !isFr (relab scope sc)
section
variable {w : World} {k : Nat} {sc : Scope} {ρ ρ' : Rho} {md m₁ : Md} {c : Cx}
theorem lookup_of_mem {α : Type} : ∀ {l : List (Str × α)} {n : Str} {c : α}, (l.map (·.1)).Nodup → (n, c) ∈ l → l.lookup n = some c
 | (m, d) :: r, n, c, nd, h => by
  rw [List.map_cons, List.nodup_cons] at nd
  rw [List.lookup_cons]
  cases h with
  | head => rw [beq_self_eq_true]
  | tail _ h =>
   have : n ≠ m := by rintro rfl; exact nd.1 (List.mem_map.mpr ⟨_, h, rfl⟩)
   rw [beq_eq_false_iff_ne.mpr this]
   exact lookup_of_mem nd.2 h
theorem comp_frame {scope : Scope} {caps : Rho} {locs : List Str} {s₁ s₃ s₄ : Shared} {I Dd : Addr} {h₄ : Heap} {tk : Nat} (S : St w sc c s₁.heap ρ) (z : Kps s₁ s₃) (ok : compOk scope sc (caps.map (·.1)) locs = true) (hc : ∀ p ∈ caps, p ∈ ρ)
  (hI : s₁.heap.get? I = none) (hD : s₁.heap.get? Dd = none) (eI : ∃ o, s₃.heap.get? I = some o ∧ ¬ IsCode o) (eD : ∃ o, s₃.heap.get? Dd = some o ∧ ¬ IsCode o)
  (hns : h₄.Ns s₃.heap.objs.size (fun _ => none)) (hsb : Heap.SameBut s₃.heap.objs.size (s₃.heap.push { cls := .type "dict", data := .dict #[] }) h₄) :
  St w (relab scope sc) { env := compEnvC scope (clo c.env scope.names []) s₃.heap.objs.size c.env, h₀ := s₁.heap, f := fun x => if ((clo c.env scope.names []).lookup x).isSome then c.f x else none, ad := fun _ => 0, mu := fun a => a = s₃.heap.objs.size, M := fun _ => False, F := c.F, hid := fun a => a = I ∨ a = Dd, lk := c.bar } h₄ (rhoC caps locs) ∧ Kp s₁.heap h₄ := by
 refine bc fun gG => ?_
 obtain ⟨C, hC⟩ : ∃ C, C = s₃.heap.objs.size := ⟨_, rfl⟩
 refine gG ?_; clear gG
 rw [← hC] at hns hsb ⊢
 unfold compOk at ok
 simp only [Bool.and_eq_true, beq_iff_eq, decide_eq_true_eq] at ok
 refine bc fun gG => ?_
 obtain ⟨⟨⟨⟨⟨⟨⟨ok1, ok2⟩, ok3⟩, ok4⟩, ok5⟩, ok6⟩, ok7⟩, ok8⟩ := ok
 refine gG ?_; clear gG
 have k₃₄ : ∀ b o, s₃.heap.get? b = some o → h₄.get? b = some o := fun b o e => by
  refine (hsb.2 b ?_).trans (Heap.get?_push_of_some _ e)
  rintro rfl; rw [hC, get_end] at e; cases e
 have K : Kp s₁.heap h₄ := z.kp.trans (Kp.of k₃₄)
 have C0 : s₁.heap.get? C = none := by
  cases e : s₁.heap.get? C with
  | none => rfl
  | some o =>
   by_cases hT : C = TF
   ·obtain ⟨o, vs, e', _⟩ := tab_here (S.kps z).base
    rw [← hT, hC, get_end] at e'; cases e'
   ·have := z.kp.get C o hT (fun z => z) e
    rw [hC, get_end] at this; cases this
 have neT : ∀ a, s₁.heap.get? a = none → a ≠ TF := fun a e => by exact ne_TF S.base e
 have neI : C ≠ I := by rintro rfl; obtain ⟨o, e, _⟩ := eI; rw [hC, get_end] at e; cases e
 have neD : C ≠ Dd := by rintro rfl; obtain ⟨o, e, _⟩ := eD; rw [hC, get_end] at e; cases e
 have hS : SaysT w s₁.heap := S.base
 have hkd : ∀ n, c.env.kindOf n = sc.names.lookup n := fun n => by show c.env.scope.names.lookup n = _; rw [S.scp]
 have hrel : relabel scope c.env = relab scope sc := by unfold relabel relab; simp only [hkd, S.scp]
 have lk_lookup : ∀ x, (relab scope sc).names.lookup x = some .local → (x, NameKind.free) ∉ scope.names := fun x e m => by
  have m' := lookup_mem' e
  refine bc fun gG => ?_
  obtain ⟨⟨n, kd⟩, mm, ee⟩ := List.mem_map.mp m'
  refine gG ?_; clear gG
  have hk : n = x ∧ kd = .local := by
   dsimp only at ee
   split at ee
   ·cases ee
   ·cases ee; exact ⟨rfl, rfl⟩
  rw [hk.1, hk.2] at mm
  have h1 := lookup_of_mem ok2 mm
  have h2 := lookup_of_mem ok2 m
  rw [h1] at h2; cases h2
 have lk_cell : ∀ x, (relab scope sc).names.lookup x = some .cell ∨ (relab scope sc).names.lookup x = some .free → (x, NameKind.free) ∈ scope.names := fun x e => by
  have : ∃ kd, (kd = .cell ∨ kd = .free) ∧ (relab scope sc).names.lookup x = some kd := by
   rcases e with e | e
   ·exact ⟨_, .inl rfl, e⟩
   ·exact ⟨_, .inr rfl, e⟩
  refine bc fun gG => ?_
  obtain ⟨kd', hk', e⟩ := this
  have m' := lookup_mem' e
  obtain ⟨⟨n, kd⟩, mm, ee⟩ := List.mem_map.mp m'
  refine gG ?_; clear gG
  dsimp only at ee
  split at ee
  ·rename_i hh
   cases ee
   simp only [Bool.and_eq_true, beq_iff_eq] at hh
   rw [hh.1.1] at mm; exact mm
  ·cases ee
   rcases hk' with rfl | rfl
   ·have := List.all_eq_true.mp ok3 _ mm
    simp at this
   ·exact mm
 have cellO : ∀ x, (x, NameKind.free) ∈ scope.names → ∃ a, c.env.cells.lookup x = some a ∧ (a ≠ TF ∧ ¬ c.hid a) ∧ s₁.heap.IsCell a (c.f x) := fun x m => by
  have := List.all_eq_true.mp ok4 _ m
  simp only [bne_self_eq_false, Bool.false_or] at this
  have e : c.env.kindOf x = sc.names.lookup x := by show c.env.scope.names.lookup x = _; rw [S.scp]
  refine S.vars.cel x ?_
  rw [e]
  split at this
  ·rename_i q; exact .inl q
  ·rename_i q; exact .inr q
  ·cases this
 have cloC : ∀ x, (x, NameKind.free) ∈ scope.names → ∀ a, c.env.cells.lookup x = some a → (clo c.env scope.names []).lookup x = some a := fun x m a e => clo_some c.env x a e _ _ (.inl m)
 have cloB : ∀ x b, (clo c.env scope.names []).lookup x = some b → (x, NameKind.free) ∈ scope.names ∧ c.env.cells.lookup x = some b := fun x b e => by
  have m := (clo_free c.env x b _ _ e).resolve_right (by intro z; cases z)
  refine bc fun gG => ?_
  obtain ⟨a, ea, _⟩ := cellO x m
  refine gG ?_; clear gG
  have := cloC x m a ea
  rw [e] at this; cases this
  exact ⟨m, ea⟩
 have hN : ∀ md : Md, md = .free ∨ md = .fresh → ∀ a o, c.N md a → s₁.heap.get? a = some o → h₄.get? a = some o ∧ Cx.N { env := compEnvC scope (clo c.env scope.names []) C c.env, h₀ := s₁.heap, f := fun x => if ((clo c.env scope.names []).lookup x).isSome then c.f x else none, ad := fun _ => 0, mu := fun a => a = C, M := fun _ => False, F := c.F, hid := fun a => a = I ∨ a = Dd, lk := c.bar } md a := by
  intro md hmd a o n e
  have nb : ∀ {q : Addr → Prop}, (∀ b, q b → b = C ∨ (b = I ∨ b = Dd) ∨ c.bar b) → ¬ c.bar a → ¬ q a := fun hq nb qa => by
   rcases hq a qa with rfl | (rfl | rfl) | q
   ·exact no C0 e
   ·exact no hI e
   ·exact no hD e
   ·exact nb q
  rcases hmd with rfl | rfl
  ·exact ⟨K.get a o n.1 (fun z => z) e, n.1, nb (fun b q => q) n.2⟩
  ·exact ⟨K.get a o n.1 (fun z => z) e, n.1, nb (fun b q => q) n.2.1, n.2.2⟩
 have hR : ∀ a o, a ≠ TF → s₁.heap.get? a = some o → h₄.get? a = some o ∧ Cx.N { env := compEnvC scope (clo c.env scope.names []) C c.env, h₀ := s₁.heap, f := fun x => if ((clo c.env scope.names []).lookup x).isSome then c.f x else none, ad := fun _ => 0, mu := fun a => a = C, M := fun _ => False, F := c.F, hid := fun a => a = I ∨ a = Dd, lk := c.bar } .ro a := by
  intro a o n e
  refine ⟨K.get a o n (fun z => z) e, n, ?_, ?_⟩
  ·show ¬ a = C
   exact (ne_oo C0 e).symm
  ·rintro (rfl | rfl)
   ·exact no hI e
   ·exact no hD e
 have tabF : ∀ N, TabOK s₁.heap N → TabOK h₄ (fun a => (N a ∨ s₁.heap.get? a = none) ∧ ¬ (a = C ∨ (a = I ∨ a = Dd) ∨ c.bar a)) := fun N z => (K.tk _ (TabOK.both z S.tabBar).here).here.weak fun a ne n => by
  refine bc fun gG => ?_
  obtain ⟨n, o, e, k⟩ := n
  refine gG ?_; clear gG
  refine ⟨n.imp (fun n => n.1.1) id, ?_⟩
  rintro (q | (q | q) | q)
  ·subst q
   refine bc fun gG => ?_
   obtain ⟨o', es, ep, e', d', _⟩ := hns
   rw [e] at e'; cases e'
   obtain ⟨_, _, d, _⟩ := k
   refine gG ?_; clear gG
   rw [d] at d'; cases d'
  ·subst q
   refine bc fun gG => ?_
   obtain ⟨o', e', k'⟩ := eI
   refine gG ?_; clear gG
   have := k₃₄ _ _ e'
   rw [e] at this; cases this; exact k' k
  ·subst q
   refine bc fun gG => ?_
   obtain ⟨o', e', k'⟩ := eD
   refine gG ?_; clear gG
   have := k₃₄ _ _ e'
   rw [e] at this; cases this; exact k' k
  ·rcases n with n | n
   ·exact n.1.2 q
   ·obtain ⟨o', e'⟩ := S.barO q
    exact no n e'
 refine ⟨⟨hS, K.to, fun b q => q.elim, fun a e => ?_, ?_, ?_, S.glo, S.blt, rfl, fun x a e => ?_, ?_, ⟨⟨_, hns, fun x e => ?_⟩, fun x e => ?_, fun x y a e e' => ?_⟩, ?_, ?_, ?_, ?_, ?_, tabF, fun z => by rw [z] at ok8; cases ok8⟩, K⟩
 ·exact (S.newN (md := .fresh) e (by intro z; cases z)).2.2
 ·exact hrel
 ·exact ok1
 ·exact no e ok5
 ·rintro a rfl
  refine ⟨neT _ C0, ?_, .inl C0⟩
  obtain ⟨o, _, _, e, _⟩ := hns; exact ⟨o, e⟩
 ·show none = if ((clo c.env scope.names []).lookup x).isSome then c.f x else none
  have e' : (relab scope sc).names.lookup x = some .local := by
   have : (relabel scope c.env).names.lookup x = some .local := e
   rw [hrel] at this; exact this
  cases q : (clo c.env scope.names []).lookup x with
  | none => rfl
  | some b => exact absurd (cloB x b q).1 (lk_lookup x e')
 ·have e' : (relab scope sc).names.lookup x = some .cell ∨ (relab scope sc).names.lookup x = some .free := by
   have : (relabel scope c.env).names.lookup x = some .cell ∨ (relabel scope c.env).names.lookup x = some .free := e
   rw [hrel] at this; exact this
  have m := lk_cell x e'
  refine bc fun gG => ?_
  obtain ⟨a, ea, n, ic⟩ := cellO x m
  refine gG ?_; clear gG
  have ea' := cloC x m a ea
  refine ⟨a, ea', ⟨n.1, ?_⟩, ?_⟩
  ·obtain ⟨o, eo, _⟩ := ic
   rintro (rfl | rfl)
   ·exact no hI eo
   ·exact no hD eo
  ·show h₄.IsCell a (if ((clo c.env scope.names []).lookup x).isSome then c.f x else none)
   rw [ea']
   refine bc fun gG => ?_
   obtain ⟨o, eo, d⟩ := ic
   refine gG ?_; clear gG
   exact ⟨o, K.get a o n.1 (fun z => z) eo, d⟩
 ·exact S.vars.inj x y a (cloB x a e).2 (cloB y a e').2
 ·have : (rhoC caps locs).map (·.1) = caps.map (·.1) ++ locs := by
   unfold rhoC
   rw [List.map_append, List.map_map, List.map_map]
   congr 1
   exact List.map_id _
  rw [this]; exact ok6
 ·intro x l m
  rcases List.mem_append.mp m with m | m
  ·obtain ⟨⟨y, l₀⟩, m1, e⟩ := List.mem_map.mp m
   cases e
   have mf : (y, NameKind.free) ∈ scope.names := lookup_mem' (by
    have := List.all_eq_true.mp ok7 y (List.mem_map.mpr ⟨_, m1, rfl⟩)
    simpa using this)
   refine bc fun gG => ?_
   obtain ⟨a, ea, _, _⟩ := cellO y mf
   refine gG ?_; clear gG
   have hf : ∀ {v : Value}, c.f y = some v → (if ((clo c.env scope.names []).lookup y).isSome then c.f y else none) = some v := fun e => by rw [cloC y mf a ea]; exact e
   have H := S.vals y l₀ (hc _ m1)
   cases l₀ with
   | dat fr d => obtain ⟨v, e, av⟩ := H; exact ⟨v, hf e, av.map (hN _ (by cases fr <;> simp [Md.of]))⟩
   | own sh ds =>
    refine bc fun gG => ?_
    obtain ⟨v, e, o, mm, vs, p, av⟩ := H
    refine gG ?_; clear gG
    have hb := (S.mutO _ mm.1)
    have al := av.map fun a o n e => hR a o n.1 e
    cases sh with
    | false =>
     cases (show v = .ref (c.ad y) from o)
     refine ⟨_, hf e, .lst ?_ (p.isList.at fun o e => K.get _ o hb.1 (fun z => z) e) al⟩
     refine bc fun gG => ?_
     obtain ⟨_, eo⟩ := p
     refine gG ?_; clear gG
     exact (hR _ _ hb.1 eo).2
    | true =>
     refine bc fun gG => ?_
     obtain ⟨a', i', ev, na, ni, hh⟩ := o
     subst ev
     obtain ⟨oa, oi, e1, _, _, _, e2, _⟩ := id hh
     refine gG ?_; clear gG
     refine ⟨_, hf e, .hdr (hR _ _ na.1 e1).2 (hR _ _ ni.1 e2).2 ?_ (hh.map (fun o e => K.get _ o na.1 (fun z => z) e) (fun o e => K.get _ o ni.1 (fun z => z) e)) (p.isList.at fun o e => K.get _ o hb.1 (fun z => z) e) al⟩
     refine bc fun gG => ?_
     obtain ⟨_, eo⟩ := p
     refine gG ?_; clear gG
     exact (hR _ _ hb.1 eo).2
   | val v' d' => obtain ⟨e, av⟩ := H; exact ⟨hf e, av.map (hN _ (.inl rfl))⟩
   | ro d => obtain ⟨v, e, av⟩ := H; exact ⟨v, hf e, av.map fun a o n e => hR a o n.1 e⟩
   | hid => trivial
  ·obtain ⟨y, m1, e⟩ := List.mem_map.mp m
   cases e; trivial
 ·intro x y sh sh' d1 d2 m
  rcases List.mem_append.mp m with m | m
  ·obtain ⟨⟨y, l₀⟩, m1, e⟩ := List.mem_map.mp m
   cases l₀ with
   | own sh ds => cases sh <;> cases e
   | _ => cases e
  ·obtain ⟨y, m1, e⟩ := List.mem_map.mp m; cases e
 ·rintro a (rfl | rfl)
  ·obtain ⟨o, e, _⟩ := eI
   exact ⟨neT _ hI, Ne.symm neI, hI, o, k₃₄ _ _ e⟩
  ·obtain ⟨o, e, _⟩ := eD
   exact ⟨neT _ hD, Ne.symm neD, hD, o, k₃₄ _ _ e⟩
 ·intro a q
  have : a ≠ TF ∧ ∃ o, s₁.heap.get? a = some o := by
   rcases q with q | q | q
   ·exact ⟨(S.mutO a q).1, (S.mutO a q).2.1⟩
   ·obtain ⟨n, _, _, o⟩ := S.hidO a q; exact ⟨n, o⟩
   ·obtain ⟨n, _, _, o⟩ := S.lkO a q; exact ⟨n, o⟩
  refine bc fun gG => ?_
  obtain ⟨n, o, e⟩ := this
  obtain ⟨e', _, h2, h3⟩ := hR a o n e
  refine gG ?_; clear gG
  exact ⟨n, h2, h3, o, e'⟩
end
section
variable {w : World} {k : Nat} {sc : Scope} {ρ ρ' : Rho} {md m₁ : Md} {c : Cx} {pos p₁ : Pos} {x : Str}
theorem ItAt.ready {fz : Bool} {s₁ s₂ s₄ : Shared} {I : Addr} {ds : List D} {cc : Cx} (it : ItAt w c fz s₁ s₂ I m₁ ds) (K : ∀ b o, b ≠ TF → s₂.heap.get? b = some o → s₄.heap.get? b = some o) (hIT : I ≠ TF)
  (hb : ∀ b o, b ≠ TF → s₁.heap.get? b = some o → ¬ cc.mu b ∧ ¬ cc.hid b) (hN : ∀ a o, c.N m₁ a → s₁.heap.get? a = some o → cc.N m₁ a) : ItAt2 w cc s₄ I m₁ ds := by
 obtain ⟨fp, P, T, hn, z₂, W, hT0, hTI, hfp, hP, hgo⟩ := it
 refine ⟨fp, P, T, W, ?_, hTI, fun b q => ?_, fun i v hv => ?_, hgo⟩
 ·refine (W { handled := none } rfl).frame 0 _ _ hT0 fun b q o e => K b o ?_ e
  rcases hfp b q with rfl | ⟨n, _⟩
  ·exact hIT
  ·exact n
 ·rcases hfp b q with rfl | ⟨n, _, o, e⟩
  ·exact .inl rfl
  ·exact .inr ⟨n, (hb b o n e).1, (hb b o n e).2, o, K b o n (z₂.kp.get b o n (fun z => z) e)⟩
 ·obtain ⟨d, hd, a⟩ := hP i v hv
  exact ⟨d, hd, a.map fun b o n e => ⟨K b o n.ne (z₂.kp.get b o n.ne (fun z => z) e), hN b o n e⟩⟩
noncomputable def CompOK (w : World) (k : Nat) (sc : Scope) (ρ : Rho) (md : Md) (node : PySem.Expr) (scope : Scope) (iter : PySem.Expr) (rs : List D) : Prop :=
 ∀ (A : Around) (c : Cx) (s : Shared) (Q : Value → Shared → Prop) (E : Value → Shared → Prop) (use : Option (Value → Sem Unit)) (p : Pos), Room A k → St w sc c s.heap ρ →
  (∀ (C Dd : Addr) (s' : Shared) (vs : List Value), s.heap.get? C = none → s.heap.get? Dd = none → C ≠ Dd → (∃ m, s'.heap.Ns C m) → Kps s s' → s'.heap.PlainList Dd vs.toArray → AtL s'.heap (fun a => a ≠ C ∧ c.N md a) vs rs → compPost (model pr w) A E use Q (.ref Dd) C (.ok .next) s') →
  wpAny (model pr w) A (comprehension node scope c.env p (newList []) false (eval iter c.env) use) Q E s
noncomputable def LoopOK (w : World) (k : Nat) (sc : Scope) (ρ : Rho) (md m₁ : Md) (node : PySem.Expr) (A : Around) (ds rs : List D) : Prop :=
 ∀ (Q : Result → Shared → Prop) (cc : Cx) (s₁ s₄ : Shared) (I Dd : Addr), Ext cc s₁ cc s₄ → St w sc cc s₄.heap ρ → ItAt2 w cc s₄ I m₁ ds → cc.hid I → s₁.heap.get? I = none → cc.hid Dd → s₁.heap.get? Dd = none → Dd ≠ I → s₄.heap.PlainList Dd #[] →
  (∀ c' s' vs, Ext cc s₁ c' s' → St w sc { c' with hid := fun a => a = Dd } s'.heap ρ → s'.heap.PlainList Dd vs.toArray → AtL s'.heap (Cx.N { c' with hid := fun a => a = Dd } md) vs rs → Q (.ok .next) s') →
  codeAny (model pr w) A (.compLoop node 0 (.ref I) (.ref Dd) cc.env) Q s₄
theorem comp_go {ds rs : List D} {target iter elt : PySem.Expr} {ifs : List PySem.Expr} {more : List Comprehension} {scope : Scope} {caps : Rho} {locs : List Str}
  (hit : ItOK w k sc ρ false m₁ iter ds) (hc : ∀ p ∈ caps, p ∈ ρ) (ok : compOk scope sc (caps.map (·.1)) locs = true) (hm₁ : m₁.le .free = true) (hm : md.le .free = true)
  (hs : ∀ env x, foldedSetIterable iter env x = pure x)
  (hl : ∀ A, Room A k → LoopOK w k (relab scope sc) (rhoC caps locs) md m₁ (.ListComp elt (⟨target, iter, ifs, 0⟩ :: more) scope pos) A ds rs) :
  CompOK w k sc ρ md (.ListComp elt (⟨target, iter, ifs, 0⟩ :: more) scope pos) scope iter rs := fun A c s Q E use p₁ Rm S fin => by
 have okk := ok
 unfold compOk at okk
 simp only [Bool.and_eq_true, beq_iff_eq, decide_eq_true_eq] at okk
 refine bc fun gG => ?_
 obtain ⟨⟨⟨⟨⟨⟨⟨ok1, ok2⟩, ok3⟩, ok4⟩, ok5⟩, ok6⟩, ok7⟩, ok8⟩ := okk
 refine gG ?_; clear gG
 have hkd : ∀ n, c.env.kindOf n = sc.names.lookup n := fun n => by show c.env.scope.names.lookup n = _; rw [S.scp]
 have hclos : closureFor scope c.env = pure (clo c.env scope.names []) := closure_eq _ _ fun x m => by
  have := List.all_eq_true.mp ok4 _ m
  simp only [bne_self_eq_false, Bool.false_or] at this
  have : ∃ a, c.env.cells.lookup x = some a := by
   have h1 : c.env.kindOf x = some .cell ∨ c.env.kindOf x = some .free := by
    rw [hkd]
    split at this
    ·rename_i q; exact .inl q
    ·rename_i q; exact .inr q
    ·cases this
   refine bc fun gG => ?_
   obtain ⟨a, e, _⟩ := S.vars.cel x h1
   refine gG ?_; clear gG
   exact ⟨a, e⟩
  refine bc fun gG => ?_
  obtain ⟨a, e⟩ := this
  refine gG ?_; clear gG
  rw [e]; rfl
 refine wpAny_comprehension_free rfl (hs _) hclos ok1 (fun y m e => lookup_of_mem ok2 (by rw [← e]; exact m)) ?_
 refine hit A c s _ _ Rm S fun I s₁ s₂ z₁ it => ?_
 have S₁ := S.kps z₁
 refine bc fun gG => ?_
 obtain ⟨fp, P, T, hn, z₂, W, hT0, hTI, hfp, hP, hgo⟩ := id it
 obtain ⟨oI, eI, cI⟩ := hTI 0 _ hT0
 refine gG ?_; clear gG
 have neT : ∀ a, s₁.heap.get? a = none → a ≠ TF := fun a e => by exact ne_TF S₁.base e
 have old : ∀ a, s₂.heap.get? a = none → s₁.heap.get? a = none := fun a e => by
  cases e' : s₁.heap.get? a with
  | none => rfl
  | some o =>
   by_cases hT : a = TF
   ·obtain ⟨o, vs, e'', _⟩ := tab_here (S₁.kps z₂).base
    rw [← hT, e] at e''; cases e''
   ·exact no e (z₂.kp.get a o hT (fun z => z) e')
 have old₀ : ∀ a, s₁.heap.get? a = none → s.heap.get? a = none := fun a e => by
  cases e' : s.heap.get? a with
  | none => rfl
  | some o => exact no e (z₁.kp.get a o (neT a e) (fun z => z) e')
 refine wpAny_newObj_type (T := "list") (data := .seq #[]) ?_ (Nat.zero_le _)
 refine bc fun gG => ?_
 obtain ⟨Dd, hDd⟩ : ∃ a, a = s₂.heap.objs.size := ⟨_, rfl⟩
 refine gG ?_; clear gG
 have D2 : s₂.heap.get? Dd = none := by rw [hDd]; exact get_end _
 have D0 : s₁.heap.get? Dd = none := old _ D2
 have neDI : Dd ≠ I := by exact ne_oo D2 eI
 have z₃ : Kps s₁ { s₂ with heap := s₂.heap.push { cls := .type "list", dict := none, data := .seq #[] } } := z₂.trans (.push s₂ _ s₂.toks)
 have eD3 : (s₂.heap.push { cls := Value.type "list", dict := none, data := Data.seq #[] }).get? Dd = some { cls := Value.type "list", dict := none, data := Data.seq #[] } := by rw [hDd]; exact Heap.get?_push_size _ rfl
 have eI3 : (s₂.heap.push { cls := Value.type "list", dict := none, data := Data.seq #[] }).get? I = some oI := Heap.get?_push_of_some _ eI
 rw [← hDd]
 refine wpAny_newFunctionEnv (binds := []) (fun y m e => ?_) (by intro y m; cases m) (fun h₄ hns hsb => ?_) ok1
 ·have := List.all_eq_true.mp ok3 y m
  rw [e] at this; simp at this
 refine bc fun gG => ?_
 obtain ⟨SC, K⟩ := comp_frame (s₄ := s) (tk := 0) S₁ z₃ ok hc hn D0 ⟨_, eI3, cI⟩ ⟨_, eD3, noFields fun _ z => by cases z⟩ hns hsb
 obtain ⟨C, hC⟩ : ∃ a, a = (s₂.heap.push { cls := Value.type "list", dict := none, data := Data.seq #[] }).objs.size := ⟨_, rfl⟩
 refine gG ?_; clear gG
 have C3 : (s₂.heap.push { cls := Value.type "list", dict := none, data := Data.seq #[] }).get? C = none := by rw [hC]; exact get_end _
 have C2 : s₂.heap.get? C = none := by
  cases e : s₂.heap.get? C with
  | none => rfl
  | some o => exact no C3 (Heap.get?_push_of_some _ e)
 have C0 : s₁.heap.get? C = none := old _ C2
 have neCD : C ≠ Dd := by exact ne_oo C3 eD3
 have neCI : C ≠ I := by exact ne_oo C3 eI3
 have k₃₄ : ∀ b o, (s₂.heap.push { cls := Value.type "list", dict := none, data := Data.seq #[] }).get? b = some o → h₄.get? b = some o := fun b o e => by
  refine (hsb.2 b ?_).trans (Heap.get?_push_of_some _ e)
  rintro rfl
  rw [← hC, C3] at e; cases e
 have henv : ({ newEnv scope (s₂.heap.push { cls := Value.type "list", dict := none, data := Data.seq #[] }).objs.size c.env.globals (clo c.env scope.names []) c.env.qual none .none (some c.env) 0 with scope := relabel scope c.env } : Env) = compEnvC scope (clo c.env scope.names []) C c.env := by rw [hC]; rfl
 refine bc fun gG => ?_
 obtain ⟨cc, hcc⟩ : ∃ cc : Cx, cc = { env := compEnvC scope (clo c.env scope.names []) C c.env, h₀ := s₁.heap, f := fun x => if ((clo c.env scope.names []).lookup x).isSome then c.f x else none, ad := fun _ => 0, mu := fun a => a = C, M := fun _ => False, F := c.F, hid := fun a => a = I ∨ a = Dd, lk := c.bar } := ⟨_, rfl⟩
 refine gG ?_; clear gG
 have SC' : St w (relab scope sc) cc h₄ (rhoC caps locs) := by rw [hcc, hC]; exact SC
 have muc : cc.mu = fun a => a = C := by rw [hcc]
 have hidc : cc.hid = fun a => a = I ∨ a = Dd := by rw [hcc]
 have lkc : cc.lk = c.bar := by rw [hcc]
 have Fc : cc.F = c.F := by rw [hcc]
 have envc : cc.env = compEnvC scope (clo c.env scope.names []) C c.env := by rw [hcc]
 let s₄ : Shared := { s₂ with heap := h₄, toks := s₂.toks + 0 }
 have it2 : ItAt2 w cc s₄ I m₁ ds := by
  refine it.ready (fun b o n e => k₃₄ b o (Heap.get?_push_of_some _ e)) (neT _ hn) (fun b o n e => ⟨?_, ?_⟩) fun a o n e => ?_
  ·rw [muc]; exact (ne_oo C0 e).symm
  ·rw [hidc]; rintro (rfl | rfl)
   ·exact no hn e
   ·exact no D0 e
  ·have nb : ¬ c.bar a → ¬ cc.bar a := fun nb q => by
    rcases q with q | q | q
    ·rw [muc] at q; cases (show a = C from q); exact no C0 e
    ·rw [hidc] at q
     rcases q with rfl | rfl
     ·exact no hn e
     ·exact no D0 e
    ·rw [lkc] at q; exact nb q
   cases m₁ with
   | flat => exact n
   | fresh => exact ⟨n.1, nb n.2.1, Fc ▸ n.2.2⟩
   | free => exact ⟨n.1, nb n.2⟩
   | new => cases hm₁
   | ro => cases hm₁
   | any => cases hm₁
 have sg : s₂.gens = s₁.gens ∧ s₂.drawn = s₁.drawn ∧ s₂.os = s₁.os := by obtain ⟨h2, t2, e2, _⟩ := z₂; rw [e2]; exact ⟨rfl, rfl, rfl⟩
 have Y0 : Ext cc s₁ cc s₄ := .kps ⟨h₄, s₂.toks + 0, by
  show (⟨h₄, s₂.gens, s₂.drawn, s₂.toks + 0, s₂.os⟩ : Shared) = ⟨h₄, s₁.gens, s₁.drawn, s₂.toks + 0, s₁.os⟩
  rw [sg.1, sg.2.1, sg.2.2], K⟩
 have loop : codeAny (model pr w) A (.compLoop (.ListComp elt (⟨target, iter, ifs, 0⟩ :: more) scope pos) 0 (.ref I) (.ref Dd) cc.env) (compPost (model pr w) A E use Q (.ref Dd) C) s₄ := by
  refine hl A Rm _ cc s₁ s₄ I Dd Y0 SC' it2 (by rw [hidc]; exact .inl rfl) hn (by rw [hidc]; exact .inr rfl) D0 neDI ⟨0, k₃₄ _ _ eD3⟩ fun c' s' vs X S' pl at' => ?_
  have K' : Kps s₁ s' := by
   refine bc fun gG => ?_
   obtain ⟨h', t', rfl⟩ := X.sh
   refine gG ?_; clear gG
   refine ⟨h', t', rfl, ⟨fun b o n _ e => X.kp.get b o n ?_ e, X.kp.tab⟩, fun N z => (S'.tabO N (by rw [X.h₀, hcc]; exact z)).weak fun a ne n => ?_⟩
   ·rw [muc]; exact (ne_oo C0 e).symm
   ·have hh : c'.h₀ = s₁.heap := by rw [X.h₀, hcc]
    rw [hh] at n; exact n.1
  refine fin C Dd s' vs (old₀ _ C0) (old₀ _ D0) neCD ?_ (z₁.trans K') pl (at'.map fun a o n e => ⟨e, ?_, ?_⟩)
  ·obtain ⟨m, n, _⟩ := S'.vars.ns
   have : c'.env.locals = C := by rw [X.env, envc]; rfl
   exact ⟨m, this ▸ n⟩
  ·have n' := Cx.N.le hm n
   rintro rfl
   exact n'.2 (.inl (X.mono _ (by rw [muc])))
  ·have nb : ¬ Cx.bar { c' with hid := fun a => a = Dd } a → ¬ c.bar a := fun z q => z (.inr (.inr (by rw [X.lk, lkc]; exact q)))
   have Fx : c'.F = c.F := X.F.trans Fc
   cases md with
   | flat => exact n
   | fresh => exact ⟨n.1, nb n.2.1, Fx ▸ n.2.2⟩
   | free => exact ⟨n.1, nb n.2⟩
   | new => cases hm
   | ro => cases hm
   | any => cases hm
 rw [← hC] at *
 show codeAny _ A (.compStart _ 0 (.ref I) (.ref Dd) _) (compPost _ A E use Q (.ref Dd) C) s₄
 rw [envc] at loop
 refine codeAny_compStart_list loop ?_
 exact (W A Rm.hh).self 0 s₄ _ _ ((W A Rm.hh).frame 0 _ _ hT0 fun b q o e => k₃₄ b o (Heap.get?_push_of_some _ e)) loop
theorem comp_run {α : Type} {l : List α} {g : α → D} {out : α → Option D} {target iter elt : PySem.Expr} {ifs : List PySem.Expr} {scope : Scope} {caps : Rho} {locs : List Str}
  (hit : ItOK w k sc ρ false m₁ iter (l.map g)) (hc : ∀ p ∈ caps, p ∈ ρ) (ok : compOk scope sc (caps.map (·.1)) locs = true)
  (step : ∀ a ∈ l, ∃ ρb, Bd w k (relab scope sc) m₁ target (g a) (rhoC caps locs) ρb ∧ Weak ρb (rhoC caps locs) ∧ match out a with
   | none => IfsT w k (relab scope sc) ρb ifs false
   | some r => IfsT w k (relab scope sc) ρb ifs true ∧ Ev w k (relab scope sc) ρb md elt r)
  (ht : (∀ I v, letOwnedTupleGo target (.ref I) v = pure ()) ∨ ∃ elts n p, target = .Tuple elts n p) (hz : l.length ≤ sizeLine) (hm₁ : m₁.le .free = true) (hm : md.le .free = true)
  (hs : ∀ env x, foldedSetIterable iter env x = pure x) (hturn : Last elt [⟨target, iter, ifs, 0⟩] scope pos 0 target iter ifs) :
  CompOK w k sc ρ md (.ListComp elt [⟨target, iter, ifs, 0⟩] scope pos) scope iter (l.filterMap out) :=
 comp_go hit hc ok hm₁ hm hs fun A Rm Q cc s₁ s₄ I Dd Y0 SC it hI hn hD D0 ne pl k =>
  comp_last hturn Rm Y0 SC it hm₁ hm hI hn hD D0 ne (H := fun a => a = Dd) (fun a q => q ▸ hD) (Ne.symm ne) (vs₀ := []) (rs₀ := []) pl .nil (by simpa using hz) step ht fun c' s' vs X S' pl at' _ _ => k c' s' vs X S' pl at'
theorem Kps.other {s s' : Shared} {h' : Heap} {C : Addr} (z : Kps s s') (hC : s.heap.get? C = none) (hT : C ≠ TF) (sb : Heap.SameBut C s'.heap h') (hc : ∃ o, s'.heap.get? C = some o ∧ ¬ IsCode o) : Kps s { s' with heap := h' } := by
 obtain ⟨h, t, rfl, K⟩ := z
 refine ⟨h', t, rfl, ⟨fun b o n _ e => (sb.2 b ?_).trans (K.get b o n (fun z => z) e), fun o vs e d => ?_⟩, fun N z => (K.tk N z).map (fun o e => (sb.2 TF (Ne.symm hT)).trans e) fun a o ne k n e => ⟨(sb.2 a ?_).trans e, n⟩⟩
 rotate_left 2
 ·rintro rfl; obtain ⟨o', e', k'⟩ := hc; have e' := e.symm.trans e'; cases e'; exact k' k
 ·exact (ne_oo hC e).symm
 ·obtain ⟨m, e'⟩ := K.tab o vs e d
  exact ⟨m, (sb.2 TF (Ne.symm hT)).trans e'⟩
theorem ev_comp {α : Type} {l : List α} {g : α → D} {out : α → Option D} {target iter elt : PySem.Expr} {ifs : List PySem.Expr} {scope : Scope} (caps : Rho) (locs : List Str)
  (hit : ItOK w k sc ρ false m₁ iter (l.map g)) (hc : ∀ p ∈ caps, p ∈ ρ) (ok : compOk scope sc (caps.map (·.1)) locs = true)
  (step : ∀ a ∈ l, ∃ ρb, Bd w k (relab scope sc) m₁ target (g a) (rhoC caps locs) ρb ∧ Weak ρb (rhoC caps locs) ∧ match out a with
   | none => IfsT w k (relab scope sc) ρb ifs false
   | some r => IfsT w k (relab scope sc) ρb ifs true ∧ Ev w k (relab scope sc) ρb md elt r)
  (hz : l.length ≤ sizeLine) (ht : (∀ I v, letOwnedTupleGo target (.ref I) v = pure ()) ∨ ∃ elts n p, target = .Tuple elts n p := by first | exact .inl (fun _ _ => rfl) | exact .inr ⟨_, _, _, rfl⟩) (hm₁ : m₁.le .free = true := by rfl) (hm : md.le .free = true := by rfl) (hmf : md ≠ .flat := by decide)
  (hs : ∀ env x, foldedSetIterable iter env x = pure x := by intro _ _; rfl) (hturn : Last elt [⟨target, iter, ifs, 0⟩] scope pos 0 target iter ifs := by intro _ _ _; rfl) : Ev w k sc ρ md (.ListComp elt [⟨target, iter, ifs, 0⟩] scope pos) (.lst (l.filterMap out)) := fun A c s Q E Rm S q => by
 show wpAny _ A (comprehension (.ListComp elt [⟨target, iter, ifs, 0⟩] scope pos) scope c.env iter.pos (newList []) false (eval iter c.env) none) Q E s
 refine comp_run hit hc ok step ht hz hm₁ hm hs hturn A c s _ _ none _ Rm S fun C Dd s' vs hC hD nCD hns z pl at' => ?_
 obtain ⟨m, n⟩ := hns
 have neT : ∀ a, s.heap.get? a = none → a ≠ TF := fun a e => by exact ne_TF S.base e
 refine ⟨m, n, fun h' sb => q _ _ (z.other hC (neT _ hC) sb (let ⟨o, es, ep, e, d, _⟩ := n; ⟨o, e, noFields fun vs z => by rw [d] at z; cases z⟩)) (.lst (S.newN hD hmf) ?_ (at'.map fun a o n e => ⟨(sb.2 a n.1).trans e, n.2⟩))⟩
 exact pl.isList.at fun o e => (sb.2 Dd (Ne.symm nCD)).trans e
theorem env_sc {sc : Scope} {env : Env} (e : env.scope = sc) : { env with scope := sc } = env := by subst e; rfl
theorem caps1 {ρ : Rho} {a : Str × LV} (m : a ∈ ρ) : ∀ p ∈ [a], p ∈ ρ := fun p q => List.mem_singleton.mp q ▸ m
theorem caps2 {ρ : Rho} {a b : Str × LV} (m : a ∈ ρ) (m' : b ∈ ρ) : ∀ p ∈ [a, b], p ∈ ρ := fun p q => (List.mem_cons.mp q).elim (fun e => e ▸ m) (caps1 m' p)
theorem es_compG {rs : List D} {target iter elt : PySem.Expr} {ifs : List PySem.Expr} {more : List Comprehension} {scope : Scope} {fr : Bool} {p₂ : Pos} {R : D → Prop}
  (H : CompOK w k sc ρ (Md.of fr) (.ListComp elt (⟨target, iter, ifs, 0⟩ :: more) scope pos) scope iter rs) (u : Upd ρ x (.dat fr (.lst rs)) ρ') (hx : isStore sc x = true)
  (hsw : ∀ env : Env, swapsWith (.ListComp elt (⟨target, iter, ifs, 0⟩ :: more) scope pos) (some (.Name x p₁)) p₂.line { env with scope := sc } = pure true) : Es w k sc ρ (.Assign [.Name x p₁] (.ListComp elt (⟨target, iter, ifs, 0⟩ :: more) scope pos) p₂) (fun r => r = ρ') R := fun A c s Q E Rm S q r => by
 rw [exec_Assign_Name_used _ _ _ _ (env_sc S.scp ▸ hsw c.env)]
 refine wpAny_bind (wpAny_standAt (wpAny_bind ?_))
 show wpAny _ A (do let _ ← comprehension (.ListComp elt (⟨target, iter, ifs, 0⟩ :: more) scope pos) scope c.env iter.pos (newList []) false (eval iter c.env) (some (assign (.Name x p₁) c.env))) _ _ s
 have hmf : Md.of fr ≠ .flat := by cases fr <;> decide
 refine wpAny_bind (wpAny_mono (H A c s (fun _ s' => Q .next s') _ _ _ Rm S fun C Dd s' vs hC hD nCD hns z pl at' => ?_) (fun _ _ h => wpAny_pure (wpAny_pure h)) fun _ _ h => h)
 refine bc fun gG => ?_
 obtain ⟨m, n⟩ := hns
 have neT : ∀ a, s.heap.get? a = none → a ≠ TF := fun a e => by exact ne_TF S.base e
 obtain ⟨oC, _, _, eC, dC, _⟩ := id n
 refine gG ?_; clear gG
 have SH := S.hide z.kp hC eC (noFields fun vs z => by rw [dC] at z; cases z)
 show wpAny _ A (do standAt p₁; bindName c.env x (.ref Dd)) _ _ s'
 refine wpAny_bind (wpAny_standAt (wpAny_bindName (store (c := { c with hid := fun a => c.hid a ∨ a = C }) SH hx fun h'' tk zs => ?_)))
 have toH : ∀ a, c.N (Md.of fr) a → a ≠ C → Cx.N { c with hid := fun a => c.hid a ∨ a = C } (Md.of fr) a := fun a n nC => by
  have nb : ¬ c.bar a → ¬ Cx.bar { c with hid := fun a => c.hid a ∨ a = C } a := fun z q => z (q.imp id fun q => q.imp (fun q => q.resolve_right nC) id)
  cases fr with
  | true => exact ⟨n.1, nb n.2.1, n.2.2⟩
  | false => exact ⟨n.1, nb n.2⟩
 have SZ := zs.st SH u (by
  rintro fr' d' e'; cases e'
  exact .lst (toH _ (S.newN hD hmf) (Ne.symm nCD)) pl.isList (at'.map fun a o n e => ⟨e, toH a n.2 n.1⟩)) (by rintro sh ds e'; cases e') (by rintro _ _ e'; cases e') (by rintro sh ds e'; cases e')
 have hidC : Cx.hid { c with hid := fun a => c.hid a ∨ a = C, f := fun y => if y = x then some (Value.ref Dd) else c.f y } C := .inr rfl
 refine bc fun gG => ?_
 obtain ⟨aL, mL, kL, sbL, oL, eL⟩ := id zs.obj
 refine gG ?_; clear gG
 have neCL : C ≠ aL := by rintro rfl; exact (SH.hidO _ (.inr rfl)).2.1 mL
 refine ⟨m, n.sameBut sbL neCL, fun h' sb => ?_⟩
 have SF := SZ.touch hidC (h' := h') (H := c.hid) (fun a o na e => (sb.2 a na).trans e) (fun a q => .inl q) fun q => by
  obtain ⟨_, _, _, o, e⟩ := S.hidO _ q; exact no hC e
 refine q _ _ ρ' ?_ SF rfl
 have X1 := zs.ext SH tk
 have X0 : Ext { c with hid := fun a => c.hid a ∨ a = C } s _ { s' with heap := h'', toks := tk } := (Ext.kps (c := { c with hid := fun a => c.hid a ∨ a = C }) z).trans X1
 exact Ext.hide ((X0.touch hC (neT _ hC) (fun a o na e => (sb.2 a na).trans e) ⟨h', tk, rfl⟩))
theorem es_comp {α : Type} {l : List α} {g : α → D} {out : α → Option D} {target iter elt : PySem.Expr} {ifs : List PySem.Expr} {scope : Scope} {fr : Bool} {p₂ : Pos} {R : D → Prop} {rs : List D} (caps : Rho) (locs : List Str)
  (hit : ItOK w k sc ρ false m₁ iter (l.map g)) (hc : ∀ p ∈ caps, p ∈ ρ) (ok : compOk scope sc (caps.map (·.1)) locs = true)
  (step : ∀ a ∈ l, ∃ ρb, Bd w k (relab scope sc) m₁ target (g a) (rhoC caps locs) ρb ∧ Weak ρb (rhoC caps locs) ∧ match out a with
   | none => IfsT w k (relab scope sc) ρb ifs false
   | some r => IfsT w k (relab scope sc) ρb ifs true ∧ Ev w k (relab scope sc) ρb (Md.of fr) elt r)
  (hz : l.length ≤ sizeLine) (u : Upd ρ x (.dat fr (.lst rs)) ρ')
  (hx : isStore sc x = true)
  (hsw : ∀ env : Env, swapsWith (.ListComp elt [⟨target, iter, ifs, 0⟩] scope pos) (some (.Name x p₁)) p₂.line { env with scope := sc } = pure true := by intro _; kernel_rfl) (ht : (∀ I v, letOwnedTupleGo target (.ref I) v = pure ()) ∨ ∃ elts n p, target = .Tuple elts n p := by first | exact .inl (fun _ _ => rfl) | exact .inr ⟨_, _, _, rfl⟩) (hm₁ : m₁.le .free = true := by rfl)
  (hs : ∀ env x, foldedSetIterable iter env x = pure x := by intro _ _; rfl) (hturn : Last elt [⟨target, iter, ifs, 0⟩] scope pos 0 target iter ifs := by intro _ _ _; rfl) (hrs : l.filterMap out = rs := by rfl) : Es w k sc ρ (.Assign [.Name x p₁] (.ListComp elt [⟨target, iter, ifs, 0⟩] scope pos) p₂) (fun r => r = ρ') R :=
 es_compG (hrs ▸ comp_run hit hc ok step ht hz hm₁ (by cases fr <;> rfl) hs hturn) u hx hsw
end
section
variable {α : Type} {a : α} {r : List α}
theorem m0 : a ∈ a :: r := .head _
theorem m1 {b0 : α} : a ∈ b0 :: a :: r := .tail _ (.head _)
theorem m2 {b0 b1 : α} : a ∈ b0 :: b1 :: a :: r := .tail _ (.tail _ (.head _))
theorem m3 {b0 b1 b2 : α} : a ∈ b0 :: b1 :: b2 :: a :: r := .tail _ (.tail _ (.tail _ (.head _)))
theorem m4 {b0 b1 b2 b3 : α} : a ∈ b0 :: b1 :: b2 :: b3 :: a :: r := .tail _ (.tail _ (.tail _ (.tail _ (.head _))))
theorem m5 {b0 b1 b2 b3 b4 : α} : a ∈ b0 :: b1 :: b2 :: b3 :: b4 :: a :: r := .tail _ (.tail _ (.tail _ (.tail _ (.tail _ (.head _)))))
theorem m6 {b0 b1 b2 b3 b4 b5 : α} : a ∈ b0 :: b1 :: b2 :: b3 :: b4 :: b5 :: a :: r := .tail _ (.tail _ (.tail _ (.tail _ (.tail _ (.tail _ (.head _))))))
theorem m7 {b0 b1 b2 b3 b4 b5 b6 : α} : a ∈ b0 :: b1 :: b2 :: b3 :: b4 :: b5 :: b6 :: a :: r := .tail _ (.tail _ (.tail _ (.tail _ (.tail _ (.tail _ (.tail _ (.head _)))))))
theorem m8 {b0 b1 b2 b3 b4 b5 b6 b7 : α} : a ∈ b0 :: b1 :: b2 :: b3 :: b4 :: b5 :: b6 :: b7 :: a :: r := .tail _ (.tail _ (.tail _ (.tail _ (.tail _ (.tail _ (.tail _ (.tail _ (.head _))))))))
theorem m9 {b0 b1 b2 b3 b4 b5 b6 b7 b8 : α} : a ∈ b0 :: b1 :: b2 :: b3 :: b4 :: b5 :: b6 :: b7 :: b8 :: a :: r := .tail _ (.tail _ (.tail _ (.tail _ (.tail _ (.tail _ (.tail _ (.tail _ (.tail _ (.head _)))))))))
theorem m10 {b0 b1 b2 b3 b4 b5 b6 b7 b8 b9 : α} : a ∈ b0 :: b1 :: b2 :: b3 :: b4 :: b5 :: b6 :: b7 :: b8 :: b9 :: a :: r := .tail _ (.tail _ (.tail _ (.tail _ (.tail _ (.tail _ (.tail _ (.tail _ (.tail _ (.tail _ (.head _))))))))))
theorem m11 {b0 b1 b2 b3 b4 b5 b6 b7 b8 b9 b10 : α} : a ∈ b0 :: b1 :: b2 :: b3 :: b4 :: b5 :: b6 :: b7 :: b8 :: b9 :: b10 :: a :: r := .tail _ (.tail _ (.tail _ (.tail _ (.tail _ (.tail _ (.tail _ (.tail _ (.tail _ (.tail _ (.tail _ (.head _)))))))))))
theorem m12 {b0 b1 b2 b3 b4 b5 b6 b7 b8 b9 b10 b11 : α} : a ∈ b0 :: b1 :: b2 :: b3 :: b4 :: b5 :: b6 :: b7 :: b8 :: b9 :: b10 :: b11 :: a :: r := .tail _ (.tail _ (.tail _ (.tail _ (.tail _ (.tail _ (.tail _ (.tail _ (.tail _ (.tail _ (.tail _ (.tail _ (.head _))))))))))))
theorem m13 {b0 b1 b2 b3 b4 b5 b6 b7 b8 b9 b10 b11 b12 : α} : a ∈ b0 :: b1 :: b2 :: b3 :: b4 :: b5 :: b6 :: b7 :: b8 :: b9 :: b10 :: b11 :: b12 :: a :: r := .tail _ (.tail _ (.tail _ (.tail _ (.tail _ (.tail _ (.tail _ (.tail _ (.tail _ (.tail _ (.tail _ (.tail _ (.tail _ (.head _)))))))))))))
theorem m14 {b0 b1 b2 b3 b4 b5 b6 b7 b8 b9 b10 b11 b12 b13 : α} : a ∈ b0 :: b1 :: b2 :: b3 :: b4 :: b5 :: b6 :: b7 :: b8 :: b9 :: b10 :: b11 :: b12 :: b13 :: a :: r := .tail _ (.tail _ (.tail _ (.tail _ (.tail _ (.tail _ (.tail _ (.tail _ (.tail _ (.tail _ (.tail _ (.tail _ (.tail _ (.tail _ (.head _))))))))))))))
theorem m15 {b0 b1 b2 b3 b4 b5 b6 b7 b8 b9 b10 b11 b12 b13 b14 : α} : a ∈ b0 :: b1 :: b2 :: b3 :: b4 :: b5 :: b6 :: b7 :: b8 :: b9 :: b10 :: b11 :: b12 :: b13 :: b14 :: a :: r := .tail _ (.tail _ (.tail _ (.tail _ (.tail _ (.tail _ (.tail _ (.tail _ (.tail _ (.tail _ (.tail _ (.tail _ (.tail _ (.tail _ (.tail _ (.head _)))))))))))))))
theorem m16 {b0 b1 b2 b3 b4 b5 b6 b7 b8 b9 b10 b11 b12 b13 b14 b15 : α} : a ∈ b0 :: b1 :: b2 :: b3 :: b4 :: b5 :: b6 :: b7 :: b8 :: b9 :: b10 :: b11 :: b12 :: b13 :: b14 :: b15 :: a :: r := .tail _ (.tail _ (.tail _ (.tail _ (.tail _ (.tail _ (.tail _ (.tail _ (.tail _ (.tail _ (.tail _ (.tail _ (.tail _ (.tail _ (.tail _ (.tail _ (.head _))))))))))))))))
theorem m17 {b0 b1 b2 b3 b4 b5 b6 b7 b8 b9 b10 b11 b12 b13 b14 b15 b16 : α} : a ∈ b0 :: b1 :: b2 :: b3 :: b4 :: b5 :: b6 :: b7 :: b8 :: b9 :: b10 :: b11 :: b12 :: b13 :: b14 :: b15 :: b16 :: a :: r := .tail _ (.tail _ (.tail _ (.tail _ (.tail _ (.tail _ (.tail _ (.tail _ (.tail _ (.tail _ (.tail _ (.tail _ (.tail _ (.tail _ (.tail _ (.tail _ (.tail _ (.head _)))))))))))))))))
end
section
variable {x : Str} {l l' : LV} {r : Rho}
theorem u0 : Upd ((x, l) :: r) x l' ((x, l') :: r) := .head
theorem u1 {b0 : Str × LV} : Upd (b0 :: (x, l) :: r) x l' (b0 :: (x, l') :: r) := .tail (.head)
theorem u2 {b0 b1 : Str × LV} : Upd (b0 :: b1 :: (x, l) :: r) x l' (b0 :: b1 :: (x, l') :: r) := .tail (.tail (.head))
theorem u3 {b0 b1 b2 : Str × LV} : Upd (b0 :: b1 :: b2 :: (x, l) :: r) x l' (b0 :: b1 :: b2 :: (x, l') :: r) := .tail (.tail (.tail (.head)))
theorem u4 {b0 b1 b2 b3 : Str × LV} : Upd (b0 :: b1 :: b2 :: b3 :: (x, l) :: r) x l' (b0 :: b1 :: b2 :: b3 :: (x, l') :: r) := .tail (.tail (.tail (.tail (.head))))
theorem u5 {b0 b1 b2 b3 b4 : Str × LV} : Upd (b0 :: b1 :: b2 :: b3 :: b4 :: (x, l) :: r) x l' (b0 :: b1 :: b2 :: b3 :: b4 :: (x, l') :: r) := .tail (.tail (.tail (.tail (.tail (.head)))))
theorem u6 {b0 b1 b2 b3 b4 b5 : Str × LV} : Upd (b0 :: b1 :: b2 :: b3 :: b4 :: b5 :: (x, l) :: r) x l' (b0 :: b1 :: b2 :: b3 :: b4 :: b5 :: (x, l') :: r) := .tail (.tail (.tail (.tail (.tail (.tail (.head))))))
theorem u7 {b0 b1 b2 b3 b4 b5 b6 : Str × LV} : Upd (b0 :: b1 :: b2 :: b3 :: b4 :: b5 :: b6 :: (x, l) :: r) x l' (b0 :: b1 :: b2 :: b3 :: b4 :: b5 :: b6 :: (x, l') :: r) := .tail (.tail (.tail (.tail (.tail (.tail (.tail (.head)))))))
theorem u8 {b0 b1 b2 b3 b4 b5 b6 b7 : Str × LV} : Upd (b0 :: b1 :: b2 :: b3 :: b4 :: b5 :: b6 :: b7 :: (x, l) :: r) x l' (b0 :: b1 :: b2 :: b3 :: b4 :: b5 :: b6 :: b7 :: (x, l') :: r) := .tail (.tail (.tail (.tail (.tail (.tail (.tail (.tail (.head))))))))
theorem u9 {b0 b1 b2 b3 b4 b5 b6 b7 b8 : Str × LV} : Upd (b0 :: b1 :: b2 :: b3 :: b4 :: b5 :: b6 :: b7 :: b8 :: (x, l) :: r) x l' (b0 :: b1 :: b2 :: b3 :: b4 :: b5 :: b6 :: b7 :: b8 :: (x, l') :: r) := .tail (.tail (.tail (.tail (.tail (.tail (.tail (.tail (.tail (.head)))))))))
theorem u10 {b0 b1 b2 b3 b4 b5 b6 b7 b8 b9 : Str × LV} : Upd (b0 :: b1 :: b2 :: b3 :: b4 :: b5 :: b6 :: b7 :: b8 :: b9 :: (x, l) :: r) x l' (b0 :: b1 :: b2 :: b3 :: b4 :: b5 :: b6 :: b7 :: b8 :: b9 :: (x, l') :: r) := .tail (.tail (.tail (.tail (.tail (.tail (.tail (.tail (.tail (.tail (.head))))))))))
theorem u11 {b0 b1 b2 b3 b4 b5 b6 b7 b8 b9 b10 : Str × LV} : Upd (b0 :: b1 :: b2 :: b3 :: b4 :: b5 :: b6 :: b7 :: b8 :: b9 :: b10 :: (x, l) :: r) x l' (b0 :: b1 :: b2 :: b3 :: b4 :: b5 :: b6 :: b7 :: b8 :: b9 :: b10 :: (x, l') :: r) := .tail (.tail (.tail (.tail (.tail (.tail (.tail (.tail (.tail (.tail (.tail (.head)))))))))))
theorem u12 {b0 b1 b2 b3 b4 b5 b6 b7 b8 b9 b10 b11 : Str × LV} : Upd (b0 :: b1 :: b2 :: b3 :: b4 :: b5 :: b6 :: b7 :: b8 :: b9 :: b10 :: b11 :: (x, l) :: r) x l' (b0 :: b1 :: b2 :: b3 :: b4 :: b5 :: b6 :: b7 :: b8 :: b9 :: b10 :: b11 :: (x, l') :: r) := .tail (.tail (.tail (.tail (.tail (.tail (.tail (.tail (.tail (.tail (.tail (.tail (.head))))))))))))
theorem u13 {b0 b1 b2 b3 b4 b5 b6 b7 b8 b9 b10 b11 b12 : Str × LV} : Upd (b0 :: b1 :: b2 :: b3 :: b4 :: b5 :: b6 :: b7 :: b8 :: b9 :: b10 :: b11 :: b12 :: (x, l) :: r) x l' (b0 :: b1 :: b2 :: b3 :: b4 :: b5 :: b6 :: b7 :: b8 :: b9 :: b10 :: b11 :: b12 :: (x, l') :: r) := .tail (.tail (.tail (.tail (.tail (.tail (.tail (.tail (.tail (.tail (.tail (.tail (.tail (.head)))))))))))))
theorem u14 {b0 b1 b2 b3 b4 b5 b6 b7 b8 b9 b10 b11 b12 b13 : Str × LV} : Upd (b0 :: b1 :: b2 :: b3 :: b4 :: b5 :: b6 :: b7 :: b8 :: b9 :: b10 :: b11 :: b12 :: b13 :: (x, l) :: r) x l' (b0 :: b1 :: b2 :: b3 :: b4 :: b5 :: b6 :: b7 :: b8 :: b9 :: b10 :: b11 :: b12 :: b13 :: (x, l') :: r) := .tail (.tail (.tail (.tail (.tail (.tail (.tail (.tail (.tail (.tail (.tail (.tail (.tail (.tail (.head))))))))))))))
theorem u15 {b0 b1 b2 b3 b4 b5 b6 b7 b8 b9 b10 b11 b12 b13 b14 : Str × LV} : Upd (b0 :: b1 :: b2 :: b3 :: b4 :: b5 :: b6 :: b7 :: b8 :: b9 :: b10 :: b11 :: b12 :: b13 :: b14 :: (x, l) :: r) x l' (b0 :: b1 :: b2 :: b3 :: b4 :: b5 :: b6 :: b7 :: b8 :: b9 :: b10 :: b11 :: b12 :: b13 :: b14 :: (x, l') :: r) := .tail (.tail (.tail (.tail (.tail (.tail (.tail (.tail (.tail (.tail (.tail (.tail (.tail (.tail (.tail (.head)))))))))))))))
theorem u16 {b0 b1 b2 b3 b4 b5 b6 b7 b8 b9 b10 b11 b12 b13 b14 b15 : Str × LV} : Upd (b0 :: b1 :: b2 :: b3 :: b4 :: b5 :: b6 :: b7 :: b8 :: b9 :: b10 :: b11 :: b12 :: b13 :: b14 :: b15 :: (x, l) :: r) x l' (b0 :: b1 :: b2 :: b3 :: b4 :: b5 :: b6 :: b7 :: b8 :: b9 :: b10 :: b11 :: b12 :: b13 :: b14 :: b15 :: (x, l') :: r) := .tail (.tail (.tail (.tail (.tail (.tail (.tail (.tail (.tail (.tail (.tail (.tail (.tail (.tail (.tail (.tail (.head))))))))))))))))
theorem u17 {b0 b1 b2 b3 b4 b5 b6 b7 b8 b9 b10 b11 b12 b13 b14 b15 b16 : Str × LV} : Upd (b0 :: b1 :: b2 :: b3 :: b4 :: b5 :: b6 :: b7 :: b8 :: b9 :: b10 :: b11 :: b12 :: b13 :: b14 :: b15 :: b16 :: (x, l) :: r) x l' (b0 :: b1 :: b2 :: b3 :: b4 :: b5 :: b6 :: b7 :: b8 :: b9 :: b10 :: b11 :: b12 :: b13 :: b14 :: b15 :: b16 :: (x, l') :: r) := .tail (.tail (.tail (.tail (.tail (.tail (.tail (.tail (.tail (.tail (.tail (.tail (.tail (.tail (.tail (.tail (.tail (.head)))))))))))))))))
end
section
variable {w : World} {k : Nat} {sc : Scope} {ρ ρ' : Rho} {md : Md} {d : D} {e : PySem.Expr} {pos p₁ : Pos} {ss : List Stmt} {K : Rho → Prop} {R : D → Prop} {x : Str} {ds : List D}
theorem ex_return (h : Ev w k sc ρ md e d) (hr : R d) (hm : up md .new d = true := by rfl) : Ex w k sc ρ (.Return (some e) pos :: ss) K R := ex_cons (es_return (K := fun _ => False) h hr hm) fun _ z => z.elim
theorem ex_return_own (hx : (x, .own false ds) ∈ ρ) (hr : R (.lst ds)) (hv : isVar sc x = true := by kernel_rfl) : Ex w k sc ρ (.Return (some (.Name x p₁)) pos :: ss) K R := ex_cons (es_return_own (K := fun _ => False) hx hr hv) fun _ z => z.elim
end
noncomputable def Bi1 (w : World) (k : Nat) (sc : Scope) (ρ : Rho) (id : String) (m₁ : Md) (d₁ : D) (md : Md) (d : D) : Prop :=
 ∀ (A : Around) (c : Cx) (s : Shared) (Q : Value → Shared → Prop) (E : Value → Shared → Prop) (v : Value), Room A k → St w sc c s.heap ρ → At s.heap (c.N m₁) v d₁ → (∀ v s', Kps s s' → At s'.heap (c.N md) v d → Q v s') → wpAny (model pr w) A (call (.builtin id) [v]) Q E s
noncomputable def Bi2 (w : World) (k : Nat) (sc : Scope) (ρ : Rho) (id : String) (m₁ : Md) (d₁ : D) (m₂ : Md) (d₂ : D) (md : Md) (d : D) : Prop :=
 ∀ (A : Around) (c : Cx) (s : Shared) (Q : Value → Shared → Prop) (E : Value → Shared → Prop) (v₁ v₂ : Value), Room A k → St w sc c s.heap ρ → At s.heap (c.N m₁) v₁ d₁ → At s.heap (c.N m₂) v₂ d₂ → (∀ v s', Kps s s' → At s'.heap (c.N md) v d → Q v s') → wpAny (model pr w) A (call (.builtin id) [v₁, v₂]) Q E s
section
variable {w : World} {k : Nat} {sc : Scope} {ρ ρ' : Rho} {md m₁ m₂ : Md} {d d₁ d₂ : D} {e e₁ e₂ o : PySem.Expr} {pos p₁ pa : Pos} {f : Str} {id : String} {x y : Str} {ds : List D} {a b : Int}
theorem ev_b1 (hf : EvV w k sc ρ (.Name f p₁) (.builtin id)) (h : Ev w k sc ρ m₁ e d₁) (hb : Bi1 w k sc ρ id m₁ d₁ md d) (hp : plainE e = true := by rfl) : Ev w k sc ρ md (.Call (.Name f p₁) [e] [] pos) d := fun A c s Q E R S q =>
 wpAny_Call_Name_kw (hf A c s _ _ R S (callWith_method1 (first := []) (wpAny_items_cons (h A c s _ _ R S fun v s₁ z₁ a₁ => wpAny_items_nil (hb A c s₁ Q E v R (S.kps z₁) a₁ fun u s₂ z₂ a₂ => q u s₂ (z₁.trans z₂) a₂)) (starEach_plain hp)) (starEach_plain hp) rfl))
theorem ev_b2 (hf : EvV w k sc ρ (.Name f p₁) (.builtin id)) (h₁ : Ev w k sc ρ m₁ e₁ d₁) (h₂ : Ev w k sc ρ m₂ e₂ d₂) (hb : Bi2 w k sc ρ id m₁ d₁ m₂ d₂ md d) (hp : plainE e₁ = true := by rfl) (hp' : plainE e₂ = true := by rfl) : Ev w k sc ρ md (.Call (.Name f p₁) [e₁, e₂] [] pos) d := fun A c s Q E R S q =>
 wpAny_Call_Name_kw (hf A c s _ _ R S (callWith_method1 (first := []) (wpAny_items_cons (h₁ A c s _ _ R S fun v s₁ z₁ a₁ => wpAny_items_cons (h₂ A c s₁ _ _ R (S.kps z₁) fun u s₂ z₂ a₂ => wpAny_items_nil (hb A c s₂ Q E v u R (S.kps (z₁.trans z₂)) (a₁.kps z₂) a₂ fun r s₃ z₃ a₃ => q r s₃ ((z₁.trans z₂).trans z₃) a₃)) (starEach_plain hp')) (starEach_plain hp)) (starEach_plain hp) (by rw [starEach_plain hp']; rfl)))
theorem ev_me0 {T : String} {pl : Env → Sem Bool} {name : Str} (h : Ev w k sc ρ m₁ o d₁) (hT : ∀ (s : Shared) N v, At s.heap N v d₁ → s.TypeIs v T ∧ ∀ a, v = .ref a → ∃ ob, s.heap.get? a = some ob ∧ ob.dict = none) (pa' : PlainAttrs T) (slot : Slot T name id) (ty : typeOf (.builtin id) = pure (.type "method_descriptor")) (hb : Bi1 w k sc ρ id m₁ d₁ md d)
  (he : ∀ env, eval (.Call (.Attribute o name pa) [] [] pos) env = (do
   let ov ← eval o env
   standAt pa.atName
   let (f, first) ← holding [ov] (getMethod ov name (pl env))
   callWith pos f first (backTo pos (starEach [] env)) []) := by intro _; rfl) : Ev w k sc ρ md (.Call (.Attribute o name pa) [] [] pos) d := fun A c s Q E R S q =>
 MethodCall_ (h A c s _ _ R S fun v s₁ z₁ a₁ => getMethod_builtin (hT s₁ _ v a₁).1 pa' slot ty (hT s₁ _ v a₁).2 (callWith_method0 (hb A c s₁ Q E v R (S.kps z₁) a₁ fun u s₂ z₂ a₂ => q u s₂ (z₁.trans z₂) a₂))) (he _)
theorem ev_me1 {T : String} {pl : Env → Sem Bool} {name : Str} (h : Ev w k sc ρ m₁ o d₁) (h₂ : Ev w k sc ρ m₂ e d₂) (hT : ∀ (s : Shared) N v, At s.heap N v d₁ → s.TypeIs v T ∧ ∀ a, v = .ref a → ∃ ob, s.heap.get? a = some ob ∧ ob.dict = none) (pa' : PlainAttrs T) (slot : Slot T name id) (ty : typeOf (.builtin id) = pure (.type "method_descriptor")) (hb : Bi2 w k sc ρ id m₁ d₁ m₂ d₂ md d)
  (hp : plainE e = true := by rfl) (he : ∀ env, eval (.Call (.Attribute o name pa) [e] [] pos) env = (do
   let ov ← eval o env
   standAt pa.atName
   let (f, first) ← holding [ov] (getMethod ov name (pl env))
   callWith pos f first (backTo pos (starEach [e] env)) []) := by intro _; rfl) : Ev w k sc ρ md (.Call (.Attribute o name pa) [e] [] pos) d := fun A c s Q E R S q =>
 MethodCall_ (h A c s _ _ R S fun v s₁ z₁ a₁ => getMethod_builtin (hT s₁ _ v a₁).1 pa' slot ty (hT s₁ _ v a₁).2
  (callWith_method1 (wpAny_items_cons (h₂ A c s₁ _ _ R (S.kps z₁) fun u s₂ z₂ a₂ => wpAny_items_nil (hb A c s₂ Q E v u R (S.kps (z₁.trans z₂)) (a₁.kps z₂) a₂ fun r s₃ z₃ a₃ => q r s₃ ((z₁.trans z₂).trans z₃) a₃)) (starEach_plain hp)) (starEach_plain hp) rfl)) (he _)
theorem is_str {s : Shared} {N : Addr → Prop} {v : Value} (a : At s.heap N v (.str x)) : s.TypeIs v "str" ∧ ∀ a, v = .ref a → ∃ ob, s.heap.get? a = some ob ∧ ob.dict = none := by
 refine a.cS fun _ => ?_; exact ⟨typeIs_str _ _ _, fun a e => nomatch e⟩
theorem bi_lenL (hz : ds.length < 2 ^ 40) : Bi1 w k sc ρ "len" m₁ (.lst ds) .flat (.int ds.length) := fun A c s Q E v R S a₁ q => by
 refine a₁.cL fun l vs hn i r => ?_
 refine call_len_list i (by rw [List.size_toArray, r.length]; lia) ?_
 have : (vs.toArray.size : Int) = ds.length := by rw [List.size_toArray, r.length]
 rw [this]
 exact q _ _ (.toks s _) (.int _ _)
theorem bi_lenS (hz : x.length < 2 ^ 40) : Bi1 w k sc ρ "len" m₁ (.str x) .flat (.int x.length) := fun A c s Q E v R S a₁ q => by
 refine a₁.cS fun _ => ?_; exact PyProof.Rows.len_str (by lia) (q _ _ (.toks s _) (.int _ _))
theorem bi_ord {n : Nat} : Bi1 w k sc ρ "ord" m₁ (.str ⟨#[n]⟩) .flat (.int n) := fun A c s Q E v R S a₁ q => by
 refine a₁.cS fun _ => ?_; exact P.ord_of_char (q _ _ (.toks s _) (.int _ _))
theorem bi_chr (h0 : 0 ≤ a) (h1 : a < 0x110000) : Bi1 w k sc ρ "chr" m₁ (.int a) .flat (.str ⟨#[a.toNat]⟩) := fun A c s Q E v R S a₁ q => by
 refine a₁.cI fun _ => ?_; exact P.chr_of_int (by simp; lia) (q _ _ (.toks s _) (.str _ _))
theorem bi_min : Bi2 w k sc ρ "min" m₁ (.int a) m₂ (.int b) .flat (.int (min a b)) := fun A c s Q E v u R S a₁ a₂ q => by
 refine a₁.cI fun _ => ?_; refine a₂.cI fun _ => ?_
 refine min_two_ints R.hh fun h' tk hk => ?_
 by_cases hb : b < a
 ·rw [if_pos hb]; rw [show min a b = b by lia] at q; exact q _ _ (.keeps hk) (.int _ _)
 ·rw [if_neg hb]; rw [show min a b = a by lia] at q; exact q _ _ (.keeps hk) (.int _ _)
noncomputable def leS (a b : Str) : Bool := !PySem.Spec.ltCps b.cps.toList a.cps.toList
noncomputable def sortS (l : List Str) : List Str := l.mergeSort leS
theorem strsAre {h : Heap} {N : Addr → Prop} : ∀ {vs : List Value} {l : List Str}, AtL h N vs (l.map D.str) → StrsAre vs l
 | _, [], .nil => .nil
 | _, x :: l, .cons a r => by refine a.cS fun _ => ?_; exact .cons _ _ (strsAre r)
theorem at_strsAre {h : Heap} {N : Addr → Prop} : ∀ {vs : List Value} {l : List Str}, StrsAre vs l → AtL h N vs (l.map D.str)
 | _, _, .nil => .nil
 | _, _, .cons x t r => .cons (.str x t) (at_strsAre r)
end
noncomputable def P0 : Params := { strHash := fun _ => 0, shareClass := fun _ => 0, mergeTok := id, idOf := fun _ => 0, idOfShared := fun _ _ => 0, followText := fun _ => false, idOfImm := fun _ => 0 }
noncomputable def entriesOf (o : Obj) : List DictEntry := match o.data with
 | .dict es _ => es.toList
 | _ => []
noncomputable def rowS (d : DictEntry) : Option (Str × Nat × Int × Nat) := match d.key, d.val with
 | .str x t, .int v u => some (x, t, v, u)
 | _, _ => none
noncomputable def T130 : List (Str × Nat × Int × Nat) := (entriesOf (o130 P0)).filterMap rowS
noncomputable def mkS6 (P : Params) (x : Str × Nat × Int × Nat) : DictEntry := ⟨PyData.keyHash P x.1, .str x.1 x.2.1, .int x.2.2.1 x.2.2.2⟩
noncomputable def signL : List (Str × Int) := T130.map fun x => (x.1, x.2.2.1)
noncomputable def sign? (x : Str) : Option Int := signL.lookup x
noncomputable def isSign (x : Str) : Bool := (sign? x).isSome
theorem get130 (P : Params) : ∃ n, (H1 P).get? 130 = some ⟨.type "dict", none, .dict (T130.map (mkS6 P)).toArray n, #[]⟩ := ⟨48, by kernel_rfl⟩
theorem keys130 (P : Params) : ∀ (l : List (Str × Nat × Int × Nat)), KeysLit P (l.map (mkS6 P))
 | [] => trivial
 | _ :: l => ⟨⟨_, _, rfl, rfl⟩, keys130 P l⟩
theorem find130 (P : Params) (x : Str) : ∀ (l : List (Str × Nat × Int × Nat)), ∃ u : Int → Tok, findBy Value.isStrOf (l.map (mkS6 P)).toArray x = ((l.map fun x => (x.1, x.2.2.1)).lookup x).map fun i => .int i (u i)
 | [] => ⟨fun _ => 0, rfl⟩
 | a :: l => by
  obtain ⟨u, ih⟩ := find130 P x l
  unfold findBy at ih ⊢
  rw [List.find?_toArray] at ih ⊢
  rw [List.map_cons, List.find?_cons, List.map_cons, List.lookup_cons]
  have e : Value.isStrOf x (mkS6 P a).key = (a.1 == x) := rfl
  rw [e]
  by_cases h : a.1 = x
  ·subst h
   refine ⟨fun i => a.2.2.2, ?_⟩
   simp [mkS6]
  ·have h1 : (a.1 == x) = false := by simpa using h
   have h2 : (x == a.1) = false := by simpa using fun z => h z.symm
   rw [h1]
   refine ⟨u, ?_⟩
   simp only [h2]
   exact ih
theorem map130 {w : World} {h : Heap} (S : SaysT w h) (x : Str) : ∃ f, h.MapOf (strKind pr w) 130 f ∧ ∃ u, f x = (sign? x).map fun i => .int i u := by
 obtain ⟨n, g⟩ := get130 w.params
 have g' := S.get _ _ (by decide) (fun z => z) g
 refine ⟨_, ⟨_, _, n, g', ⟨rfl, rfl, rfl⟩, rfl, fun e he => ?_, fun _ => rfl⟩, ?_⟩
 ·obtain ⟨x, t, e1, e2⟩ := (keys130 w.params T130).all e (by simpa using he)
  exact ⟨x, by rw [e1]; exact strKind_is pr w x t, e2⟩
 ·obtain ⟨u, q⟩ := find130 w.params x T130
  show ∃ u, findBy Value.isStrOf _ x = _
  cases hx : sign? x with
  | none => exact ⟨0, by rw [q]; unfold sign? signL at hx; rw [hx]; rfl⟩
  | some i => exact ⟨u i, by rw [q]; unfold sign? signL at hx; rw [hx]; rfl⟩
noncomputable def rowI (d : DictEntry) : Option (Int × Nat × Str × Nat) := match d.key, d.val with
 | .int k t, .str v u => some (k, t, v, u)
 | _, _ => none
noncomputable def T84 : List (Int × Nat × Str × Nat) := (entriesOf o84).filterMap rowI
noncomputable def mkI (x : Int × Nat × Str × Nat) : DictEntry := ⟨hashInt x.1, .int x.1 x.2.1, .str x.2.2.1 x.2.2.2⟩
noncomputable def foldL : List (Int × Str) := T84.map fun x => (x.1, x.2.2.1)
noncomputable def fold? (x : Int) : Option Str := foldL.lookup x
theorem get84 (P : Params) : ∃ n, (H1 P).get? 84 = some ⟨.type "dict", none, .dict (T84.map mkI).toArray n, #[]⟩ := ⟨650, by kernel_rfl⟩
theorem find84 (x : Int) : ∀ (l : List (Int × Nat × Str × Nat)), ∃ u, findBy Value.isInt (l.map mkI).toArray x = ((l.map fun x => (x.1, x.2.2.1)).lookup x).map fun i => .str i u
 | [] => ⟨0, rfl⟩
 | a :: l => by
  obtain ⟨u, ih⟩ := find84 x l
  unfold findBy at ih ⊢
  rw [List.find?_toArray] at ih ⊢
  rw [List.map_cons, List.find?_cons, List.map_cons, List.lookup_cons]
  have e : Value.isInt x (mkI a).key = (a.1 == x) := rfl
  rw [e]
  by_cases h : a.1 = x
  ·subst h
   refine ⟨a.2.2.2, ?_⟩
   simp [mkI]
  ·have h1 : (a.1 == x) = false := by simpa using h
   have h2 : (x == a.1) = false := by simpa using fun z => h z.symm
   rw [h1]
   refine ⟨u, ?_⟩
   simp only [h2]
   exact ih
theorem map84 {w : World} {h : Heap} (S : SaysT w h) (x : Int) : ∃ f, h.MapOf (intKind pr w) 84 f ∧ ∃ u, f x = (fold? x).map fun i => .str i u := by
 obtain ⟨n, g⟩ := get84 w.params
 have g' := S.get _ _ (by decide) (fun z => z) g
 refine ⟨_, ⟨_, _, n, g', ⟨rfl, rfl, rfl⟩, rfl, fun e he => ?_, fun _ => rfl⟩, find84 x T84⟩
 simp only [List.mem_toArray, List.mem_map] at he
 obtain ⟨a, _, rfl⟩ := he
 exact ⟨a.1, isInt_self a.1 a.2.1, rfl⟩
noncomputable def elemsOf (o : Obj) : List (Int × Value) := match o.data with
 | .set es _ _ => es.toList
 | _ => []
noncomputable def T73 : List (Int × Nat) := (elemsOf (o73 P0)).filterMap fun x => match x.2 with
 | .int k t => some (k, t)
 | _ => none
noncomputable def unseenL : List Int := T73.map (·.1)
noncomputable def unseen (k : Int) : Bool := unseenL.contains k
noncomputable def t73 (P : Params) : SetTable := match (o73 P).data with
 | .set _ _ t => t
 | _ => .fresh 0 0 false
theorem get73 (P : Params) : ∃ n t, (H1 P).get? 73 = some ⟨.type "set", none, .set (T73.map fun x => (hashInt x.1, .int x.1 x.2)).toArray n t, #[]⟩ ∧ t.fits 27 = true :=
 ⟨29, t73 P, by kernel_rfl, by kernel_rfl⟩
theorem set73 {w : World} {h : Heap} (S : SaysT w h) : h.SetOf (intKind pr w) 73 unseen 27 := by
 obtain ⟨n, t, g, f⟩ := get73 w.params
 have g' := S.get _ _ (by decide) (fun z => z) g
 refine ⟨_, _, n, t, g', ⟨rfl, rfl, rfl⟩, rfl, fun e he => ?_, fun k => ?_, by rw [List.size_toArray, List.length_map]; decide +kernel, by rw [List.size_toArray, List.length_map]; exact f, by rw [List.size_toArray, List.length_map]; rfl⟩
 ·simp only [List.mem_map] at he
  obtain ⟨a, _, rfl⟩ := he
  exact ⟨⟨a.1, isInt_self a.1 a.2, rfl⟩, rfl⟩
 ·unfold unseen unseenL
  rw [List.contains_iff_mem]
  simp only [List.mem_map]
  constructor
  ·rintro ⟨a, m, rfl⟩
   exact ⟨_, ⟨a, m, rfl⟩, isInt_self a.1 a.2⟩
  ·rintro ⟨_, ⟨a, m, rfl⟩, q⟩
   refine ⟨a, m, ?_⟩
   have q : (a.1 == k) = true := q
   simpa using q
section
variable {w : World} {k : Nat} {sc : Scope} {ρ ρ' : Rho} {md m₁ m₂ : Md} {d d₁ d₂ : D} {e e₁ e₂ o : PySem.Expr} {pos p₁ pa : Pos} {f : Str} {id : String} {x y : Str} {ds : List D} {a b : Int}
theorem ts_in130 (ha : Ev w k sc ρ m₁ e₁ (.str x)) (hv : EvV w k sc ρ e₂ (.ref 130)) (hm : behindInMarks .In e₂ = false := by with_unfolding_all rfl) : Ts w k sc ρ (.Compare e₁ [.In] [e₂] pos) (isSign x) := fun A c s Q E R S q =>
 wpAny_isTrue_Compare1 (ha A c s _ _ R S fun v s₁ p₁ a₁ => hv A c s₁ _ _ R (S.kps p₁) (by
  refine a₁.cS fun _ => ?_
  obtain ⟨f, hf, u, hu⟩ := map130 (S.kps p₁).base x
  refine wpAny_in_of (strKind_is pr w x _) (by rfl) hf ?_
  rw [hu, Option.isSome_map]
  exact wpAny_truthy_bool (q _ (p₁.trans (.toks _ _))))) hm
theorem ts_notIn130 (ha : Ev w k sc ρ m₁ e₁ (.str x)) (hv : EvV w k sc ρ e₂ (.ref 130)) (hm : behindInMarks .NotIn e₂ = false := by with_unfolding_all rfl) : Ts w k sc ρ (.Compare e₁ [.NotIn] [e₂] pos) (!isSign x) := fun A c s Q E R S q =>
 wpAny_isTrue_Compare1 (ha A c s _ _ R S fun v s₁ p₁ a₁ => hv A c s₁ _ _ R (S.kps p₁) (by
  refine a₁.cS fun _ => ?_
  obtain ⟨f, hf, u, hu⟩ := map130 (S.kps p₁).base x
  refine wpAny_notIn_of (strKind_is pr w x _) (by rfl) hf ?_
  rw [hu, Option.isSome_map]
  exact wpAny_truthy_bool (q _ (p₁.trans (.toks _ _))))) hm
theorem ev_in73 (ha : Ev w k sc ρ m₁ e₁ (.int a)) (hv : EvV w k sc ρ e₂ (.ref 73)) (hm : behindInMarks .In e₂ = false := by with_unfolding_all rfl) : Ev w k sc ρ .flat (.Compare e₁ [.In] [e₂] pos) (.bool (unseen a)) := fun A c s Q E R S q =>
 wpAny_Compare1 (ha A c s _ _ R S fun v s₁ p₁ a₁ => hv A c s₁ _ _ R (S.kps p₁) (by
  refine a₁.cI fun tk => ?_
  refine wpAny_inSet_of (isInt_self a tk) rfl (set73 (S.kps p₁).base) ?_
  exact q _ _ (p₁.trans (.toks _ _)) (.bool _))) hm
theorem ev_item130 {i : Int} (hv : EvV w k sc ρ e₁ (.ref 130)) (ha : Ev w k sc ρ m₁ e₂ (.str x)) (hx : sign? x = some i)
  (hs : ∀ t, subscripted e₂ false (.ref 130) (.str x t) = operate [.ref 130, .str x t] (getItem (.ref 130) (.str x t)) := by intro _; with_unfolding_all rfl) : Ev w k sc ρ .flat (.Subscript e₁ e₂ pos) (.int i) := fun A c s Q E R S q =>
 Subscript_ (hv A c s _ _ R S (ha A c s _ _ R S fun v s₁ p₁ a₂ => by
  refine a₂.cS fun _ => ?_
  obtain ⟨f, hf, u, hu⟩ := map130 (S.kps p₁).base x
  refine tail_any hf.typeIs slot_dict_getitem.lookup (wpAny_getItem_of (strKind_is pr w x _) hf (hu.trans (by rw [hx]; rfl)) ?_) (hs _)
  exact q _ _ (p₁.trans (.toks _ _)) (.int _ _)))
noncomputable def dOpt : Option Str → D
 | none => .none
 | some x => .str x
theorem ev_get84 {pl : Env → Sem Bool} (hv : EvV w k sc ρ o (.ref 84)) (ha : Ev w k sc ρ m₁ e (.int a)) (hp : plainE e = true := by rfl)
  (he : ∀ env, eval (.Call (.Attribute o "get" pa) [e] [] pos) env = (do
   let ov ← eval o env
   standAt pa.atName
   let (f, first) ← holding [ov] (getMethod ov "get" (pl env))
   callWith pos f first (backTo pos (starEach [e] env)) []) := by intro _; rfl) : Ev w k sc ρ .flat (.Call (.Attribute o "get" pa) [e] [] pos) (dOpt (fold? a)) := fun A c s Q E R S q =>
 MethodCall_ (hv A c s _ _ R S (by
  obtain ⟨f, hf, _⟩ := map84 S.base a
  refine getMethod_builtin hf.typeIs PySem.F.plainAttrs_dict PySem.F.slot_dict_get PySem.F.type_dict_get hf.noDict ?_
  refine callWith_method1 (wpAny_items_cons (ha A c s _ _ R S fun v s₂ z₂ a₂ => wpAny_items_nil ?_) (starEach_plain hp)) (starEach_plain hp) rfl
  refine a₂.cI fun tk => ?_
  obtain ⟨f, hf, u, hu⟩ := map84 (S.kps z₂).base a
  refine call_meetsIn PySem.F.slot_dict_get hf.typeIs PySem.F.entry_dict_get (PySem.F.args_dict_get_2 _ _) (meets_dict_get _ _ (isInt_self a tk) (by rfl)) ⟨_, hf, ?_⟩
  rw [hu]
  refine q _ _ (z₂.trans (.toks _ _)) ?_
  cases fold? a with
  | none => exact .none
  | some i => exact .str _ _)) (he _)
theorem ev_num {i : Int} {t : Tok} (hv : EvV w k sc ρ e (.int i t)) : Ev w k sc ρ .flat e (.int i) := fun A c s Q E R S q =>
 hv A c s _ _ R S (q _ _ (.refl s) (.int _ _))
theorem bi_lower (hf : x.length ≤ 5592405) : Bi1 w k sc ρ "str.lower" m₁ (.str x) .flat (.str (Txt.lower x)) := fun A c s Q E v R S a₁ q => by
 refine a₁.cS fun _ => ?_; exact SC.lower (fit_lower hf) (q _ _ (.toks s _) (.str _ _))
theorem bi_upper (hf : x.length ≤ 5592405) : Bi1 w k sc ρ "str.upper" m₁ (.str x) .flat (.str (Txt.upper x)) := fun A c s Q E v R S a₁ q => by
 refine a₁.cS fun _ => ?_; exact SC.upper (fit_upper hf) (q _ _ (.toks s _) (.str _ _))
theorem strs_vals {h : Heap} {N : Addr → Prop} : ∀ {vs : List Value} {l : List Str}, AtL h N vs (l.map D.str) → ∃ z : List (Str × Tok), vs = strValues z ∧ z.map (·.1) = l
 | _, [], .nil => ⟨[], rfl, rfl⟩
 | _, x :: l, .cons a r => by
  obtain ⟨z, h1, h2⟩ := strs_vals r
  refine a.cS fun t => ?_
  exact ⟨(x, t) :: z, by rw [h1]; rfl, by rw [← h2]; rfl⟩
theorem bi_join {l : List Str} (hok : JoinOk x l = true) : Bi2 w k sc ρ "str.join" m₁ (.str x) m₂ (.lst (l.map D.str)) .flat (.str (Txt.join x l)) := fun A c s Q E v u R S a₁ a₂ q => by
 refine a₁.cS fun _ => ?_
 refine a₂.cL fun _ _ hn i r => ?_
 obtain ⟨z, h1, h2⟩ := strs_vals r
 subst h1
 refine SC.join i h2 hok fun t' k => q _ _ (.toks s _) (.str _ _)
end
theorem perm_uniq {α : Type} {le : α → α → Prop} (anti : ∀ a b, le a b → le b a → a = b) : ∀ {l l' : List α}, l.Pairwise le → l'.Pairwise le → l.Perm l' → l = l'
 | [], l', _, _, p => p.nil_eq
 | a :: l, [], _, _, p => absurd p.length_eq (by simp)
 | a :: l, b :: l', h, h', p => by
  rw [List.pairwise_cons] at h h'
  have e : a = b := by
   have ha : a ∈ b :: l' := p.subset (.head _)
   have hb : b ∈ a :: l := p.symm.subset (.head _)
   rcases List.mem_cons.mp ha with e | ha
   ·exact e
   rcases List.mem_cons.mp hb with e | hb
   ·exact e.symm
   exact anti _ _ (h.1 _ hb) (h'.1 _ ha)
  subst e
  rw [perm_uniq anti h.2 h'.2 p.cons_inv]
theorem leS_eq (a b : Str) : leS a b = !decide (b.cps.toList < a.cps.toList) := by unfold leS; rw [ltCps_eq]
theorem leS_anti (a b : Str) (h : leS a b = true) (h' : leS b a = true) : a = b := by
 rw [leS_eq] at h h'
 simp only [Bool.not_eq_true', decide_eq_false_iff_not] at h h'
 have e : a.cps.toList = b.cps.toList := List.le_antisymm (List.not_lt.mp h) (List.not_lt.mp h')
 obtain ⟨⟨a⟩⟩ := a; obtain ⟨⟨b⟩⟩ := b
 simp only at e; subst e; rfl
theorem leS_trans (a b c : Str) (h : leS a b = true) (h' : leS b c = true) : leS a c = true := by
 rw [leS_eq] at h h' ⊢
 simp only [Bool.not_eq_true', decide_eq_false_iff_not] at h h' ⊢
 exact List.not_lt.mpr (List.le_trans (List.not_lt.mp h) (List.not_lt.mp h'))
theorem leS_total (a b : Str) : (leS a b || leS b a) = true := by
 rw [leS_eq, leS_eq]
 rcases List.le_total a.cps.toList b.cps.toList with h | h
 ·simp [List.not_lt.mpr h]
 ·simp [List.not_lt.mpr h]
theorem sortedS_pairwise : ∀ {l : List Str}, sortedS l = true → l.Pairwise (fun a b => leS a b = true)
 | [], _ => .nil
 | [a], _ => by simp
 | a :: b :: l, h => by
  have h1 : leS a b = true ∧ sortedS (b :: l) = true := by
   have : (leS a b && risingS b l) = true := h
   rw [Bool.and_eq_true] at this
   exact this
  have ih := sortedS_pairwise h1.2
  rw [List.pairwise_cons]
  refine ⟨fun c hc => ?_, ih⟩
  rcases List.mem_cons.mp hc with rfl | hc
  ·exact h1.1
  ·exact leS_trans _ _ _ h1.1 ((List.pairwise_cons.mp ih).1 _ hc)
theorem sortS_sorted (l : List Str) : (sortS l).Pairwise (fun a b => leS a b = true) := List.pairwise_mergeSort leS_trans leS_total l
theorem sortS_uniq {l l' : List Str} (h : sortedS l' = true) (p : l'.Perm l) : l' = sortS l :=
 perm_uniq leS_anti (sortedS_pairwise h) (sortS_sorted l) (p.trans (List.mergeSort_perm _ _).symm)
section
variable {w : World} {k : Nat} {sc : Scope} {ρ ρ' : Rho} {md m₁ m₂ : Md}
theorem get_past (h : Heap) {n : Nat} (hn : h.objs.size ≤ n) : h.get? n = none := by
 cases e : h.get? n with
 | none => rfl
 | some o => exact absurd (Heap.lt_size e) (Nat.not_lt.mpr hn)
theorem bi_sorted {l : List Str} (hz : l.length < 64) (hm : md ≠ .flat) : Bi1 w k sc ρ "sorted" m₁ (.lst (l.map D.str)) md (.lst ((sortS l).map D.str)) := fun A c s Q E v R S a₁ q => by
 refine a₁.cL fun a vs hn i r => ?_
 have hS := strsAre r
 refine sorted_strs i hS (by have := r.length; simp at this; lia) fun out l' h1 h2 h3 => ?_
 obtain ⟨e, he⟩ := sortedAll_at s.heap vs out
 have hl' : l' = sortS l := sortS_uniq h3 h2
 subst hl'
 exact q _ _ (.keeps fun b o x => sortedAll_old x) (.lst (S.newN (get_past _ (Nat.le_succ _)) hm) ⟨_, he, rfl, e, by rw [Array.toArray_toList]⟩ (at_strsAre h1))
end
noncomputable def fdO (o : Obj) : FuncData := match o.data with
 | .func f => f
 | _ => default
noncomputable def flO (o : Obj) : Array Value := match o.data with
 | .fields vs => vs
 | _ => #[]
noncomputable def tokO (o : Obj) : Tok := match (flO o)[1]? with
 | some (Value.str _ t) => t
 | _ => 0
theorem fnAt_of {w : World} {fa ca : Addr} {o co : Obj} {body : List Stmt} (ho : (H1 w.params).get? fa = some o) (hd : o.data = .func (fdO o)) (ne : (fa == TF || ca == TF) = false) (hb : (fdO o).body = .stmts body) (h1 : (fdO o).closure = []) (h2 : (fdO o).globals = mainGlobals) (h3 : (fdO o).builtins = builtinsNs)
  (h4 : ((fdO o).scope.isCoroutine || (fdO o).scope.isGenerator || !((fdO o).scope.kind == .function) || !((fdO o).scope.names.all (fun x => x.2 != .free))) = false)
  (hc : (fdO o).code = .ref ca) (hco : (H1 w.params).get? ca = some co) (hcd : co.data = .fields (flO co)) (hq : (flO co)[1]? = some (.str (fdO o).qualname (tokO co))) : FnAt w fa (fdO o) body := by
 simp only [Bool.or_eq_false_iff, beq_eq_false_iff_ne, ne_eq, Bool.not_eq_false', beq_iff_eq] at h4 ne
 exact ⟨⟨o, ho, hd⟩, ne.1, hb, h1, h2, h3, h4.1.1.1, h4.1.1.2, h4.1.2, h4.2, ⟨ca, co, _, _, hc, ne.2, hco, hcd, hq⟩⟩
theorem F_ib1 (w : World) : FnAt w 83 (fdO o83) (bo (st 7)) := fnAt_of (ca := 82) (co := o82) (by kernel_rfl) rfl rfl rfl rfl rfl rfl (by kernel_rfl) rfl (by kernel_rfl) rfl (by kernel_rfl)
theorem B_ib1 (w : World) (d0 : D) : Binds w (fdO o83) [d0] [] [Str.ofString "code"] [d0] := by
 intro A s Q E vs us hh S hv hu q
 obtain _ | ⟨a0, hv⟩ := hv
 cases hv; cases hu
 exact wpAny_of_eq (by kernel_rfl) (q _ _ _ (.refl _) (.cons a0 .nil))
theorem F_mb3 (w : World) : FnAt w 129 (fdO o129) (bo (st 9)) := fnAt_of (ca := 128) (co := o128) (by kernel_rfl) rfl rfl rfl rfl rfl rfl (by kernel_rfl) rfl (by kernel_rfl) rfl (by kernel_rfl)
theorem B_mb3 (w : World) (d0 : D) : Binds w (fdO o129) [d0] [] [Str.ofString "code"] [d0] := by
 intro A s Q E vs us hh S hv hu q
 obtain _ | ⟨a0, hv⟩ := hv
 cases hv; cases hu
 exact wpAny_of_eq (by kernel_rfl) (q _ _ _ (.refl _) (.cons a0 .nil))
theorem F_term (w : World) : FnAt w 139 (fdO o139) (bo (st 62)) := fnAt_of (ca := 138) (co := o138) (by kernel_rfl) rfl rfl rfl rfl rfl rfl (by kernel_rfl) rfl (by kernel_rfl) rfl (by kernel_rfl)
theorem B_term (w : World) (d0 : D) : Binds w (fdO o139) [d0] [] [Str.ofString "x"] [d0] := by
 intro A s Q E vs us hh S hv hu q
 obtain _ | ⟨a0, hv⟩ := hv
 cases hv; cases hu
 exact wpAny_of_eq (by kernel_rfl) (q _ _ _ (.refl _) (.cons a0 .nil))
theorem F_nont (w : World) : FnAt w 146 (fdO o146) (bo (st 63)) := fnAt_of (ca := 145) (co := o145) (by kernel_rfl) rfl rfl rfl rfl rfl rfl (by kernel_rfl) rfl (by kernel_rfl) rfl (by kernel_rfl)
theorem B_nont (w : World) (d0 : D) : Binds w (fdO o146) [d0] [] [Str.ofString "x"] [d0] := by
 intro A s Q E vs us hh S hv hu q
 obtain _ | ⟨a0, hv⟩ := hv
 cases hv; cases hu
 exact wpAny_of_eq (by kernel_rfl) (q _ _ _ (.refl _) (.cons a0 .nil))
theorem F_eof (w : World) : FnAt w 153 (fdO o153) (bo (st 64)) := fnAt_of (ca := 152) (co := o152) (by kernel_rfl) rfl rfl rfl rfl rfl rfl (by kernel_rfl) rfl (by kernel_rfl) rfl (by kernel_rfl)
theorem B_eof (w : World) (d0 : D) : Binds w (fdO o153) [d0] [] [Str.ofString "x"] [d0] := by
 intro A s Q E vs us hh S hv hu q
 obtain _ | ⟨a0, hv⟩ := hv
 cases hv; cases hu
 exact wpAny_of_eq (by kernel_rfl) (q _ _ _ (.refl _) (.cons a0 .nil))
theorem F_drawn (w : World) : FnAt w 308 (fdO o308) (bo (st 72)) := fnAt_of (ca := 307) (co := o307) (by kernel_rfl) rfl rfl rfl rfl rfl rfl (by kernel_rfl) rfl (by kernel_rfl) rfl (by kernel_rfl)
theorem B_drawn (w : World) (d0 : D) : Binds w (fdO o308) [d0] [] [Str.ofString "x"] [d0] := by
 intro A s Q E vs us hh S hv hu q
 obtain _ | ⟨a0, hv⟩ := hv
 cases hv; cases hu
 exact wpAny_of_eq (by kernel_rfl) (q _ _ _ (.refl _) (.cons a0 .nil))
theorem F_prep (w : World) : FnAt w 315 (fdO o315) (bo (st 73)) := fnAt_of (ca := 314) (co := o314) (by kernel_rfl) rfl rfl rfl rfl rfl rfl (by kernel_rfl) rfl (by kernel_rfl) rfl (by kernel_rfl)
theorem B_prep (w : World) (d0 : D) : Binds w (fdO o315) [d0] [] [Str.ofString "text"] [d0] := by
 intro A s Q E vs us hh S hv hu q
 obtain _ | ⟨a0, hv⟩ := hv
 cases hv; cases hu
 exact wpAny_of_eq (by kernel_rfl) (q _ _ _ (.refl _) (.cons a0 .nil))
theorem F_pieces (w : World) : FnAt w 322 (fdO o322) (bo (st 74)) := fnAt_of (ca := 321) (co := o321) (by kernel_rfl) rfl rfl rfl rfl rfl rfl (by kernel_rfl) rfl (by kernel_rfl) rfl (by kernel_rfl)
theorem B_pieces (w : World) (d0 : D) : Binds w (fdO o322) [d0] [] [Str.ofString "text"] [d0] := by
 intro A s Q E vs us hh S hv hu q
 obtain _ | ⟨a0, hv⟩ := hv
 cases hv; cases hu
 exact wpAny_of_eq (by kernel_rfl) (q _ _ _ (.refl _) (.cons a0 .nil))
theorem F_row (w : World) : FnAt w 329 (fdO o329) (bo (st 75)) := fnAt_of (ca := 328) (co := o328) (by kernel_rfl) rfl rfl rfl rfl rfl rfl (by kernel_rfl) rfl (by kernel_rfl) rfl (by kernel_rfl)
theorem B_row (w : World) (d0 : D) : Binds w (fdO o329) [d0] [] [Str.ofString "pieces"] [d0] := by
 intro A s Q E vs us hh S hv hu q
 obtain _ | ⟨a0, hv⟩ := hv
 cases hv; cases hu
 exact wpAny_of_eq (by kernel_rfl) (q _ _ _ (.refl _) (.cons a0 .nil))
theorem F_steps (w : World) : FnAt w 336 (fdO o336) (bo (st 76)) := fnAt_of (ca := 335) (co := o335) (by kernel_rfl) rfl rfl rfl rfl rfl rfl (by kernel_rfl) rfl (by kernel_rfl) rfl (by kernel_rfl)
theorem B_steps (w : World) (d0 d1 : D) : Binds w (fdO o336) [d0, d1] [] [Str.ofString "pieces", Str.ofString "row"] [d0, d1] := by
 intro A s Q E vs us hh S hv hu q
 obtain _ | ⟨a0, hv⟩ := hv
 obtain _ | ⟨a1, hv⟩ := hv
 cases hv; cases hu
 exact wpAny_of_eq (by kernel_rfl) (q _ _ _ (.refl _) (.cons a0 (.cons a1 .nil)))
theorem F_chain (w : World) : FnAt w 343 (fdO o343) (bo (st 77)) := fnAt_of (ca := 342) (co := o342) (by kernel_rfl) rfl rfl rfl rfl rfl rfl (by kernel_rfl) rfl (by kernel_rfl) rfl (by kernel_rfl)
theorem B_chain (w : World) (d0 d1 : D) : Binds w (fdO o343) [d0, d1] [] [Str.ofString "above", Str.ofString "k"] [d0, d1] := by
 intro A s Q E vs us hh S hv hu q
 obtain _ | ⟨a0, hv⟩ := hv
 obtain _ | ⟨a1, hv⟩ := hv
 cases hv; cases hu
 exact wpAny_of_eq (by kernel_rfl) (q _ _ _ (.refl _) (.cons a0 (.cons a1 .nil)))
theorem F_front (w : World) : FnAt w 348 (fdO o348) (bo (st 78)) := fnAt_of (ca := 347) (co := o347) (by kernel_rfl) rfl rfl rfl rfl rfl rfl (by kernel_rfl) rfl (by kernel_rfl) rfl (by kernel_rfl)
theorem B_front (w : World) (d0 d1 : D) : Binds w (fdO o348) [d0, d1] [] [Str.ofString "one", Str.ofString "two"] [d0, d1] := by
 intro A s Q E vs us hh S hv hu q
 obtain _ | ⟨a0, hv⟩ := hv
 obtain _ | ⟨a1, hv⟩ := hv
 cases hv; cases hu
 exact wpAny_of_eq (by kernel_rfl) (q _ _ _ (.refl _) (.cons a0 (.cons a1 .nil)))
theorem F_chains (w : World) : FnAt w 353 (fdO o353) (bo (st 79)) := fnAt_of (ca := 352) (co := o352) (by kernel_rfl) rfl rfl rfl rfl rfl rfl (by kernel_rfl) rfl (by kernel_rfl) rfl (by kernel_rfl)
theorem B_chains (w : World) (d0 d1 : D) : Binds w (fdO o353) [d0, d1] [] [Str.ofString "ahead", Str.ofString "begin"] [d0, d1] := by
 intro A s Q E vs us hh S hv hu q
 obtain _ | ⟨a0, hv⟩ := hv
 obtain _ | ⟨a1, hv⟩ := hv
 cases hv; cases hu
 exact wpAny_of_eq (by kernel_rfl) (q _ _ _ (.refl _) (.cons a0 (.cons a1 .nil)))
theorem F_reached (w : World) : FnAt w 360 (fdO o360) (bo (st 80)) := fnAt_of (ca := 359) (co := o359) (by kernel_rfl) rfl rfl rfl rfl rfl rfl (by kernel_rfl) rfl (by kernel_rfl) rfl (by kernel_rfl)
theorem B_reached (w : World) (d0 d1 d2 : D) : Binds w (fdO o360) [d0, d1, d2] [] [Str.ofString "ways", Str.ofString "begin", Str.ofString "without"] [d0, d1, d2] := by
 intro A s Q E vs us hh S hv hu q
 obtain _ | ⟨a0, hv⟩ := hv
 obtain _ | ⟨a1, hv⟩ := hv
 obtain _ | ⟨a2, hv⟩ := hv
 cases hv; cases hu
 exact wpAny_of_eq (by kernel_rfl) (q _ _ _ (.refl _) (.cons a0 (.cons a1 (.cons a2 .nil))))
theorem F_due (w : World) : FnAt w 365 (fdO o365) (bo (st 81)) := fnAt_of (ca := 364) (co := o364) (by kernel_rfl) rfl rfl rfl rfl rfl rfl (by kernel_rfl) rfl (by kernel_rfl) rfl (by kernel_rfl)
theorem B_due (w : World) (d0 d1 d2 : D) : Binds w (fdO o365) [d0, d1, d2] [] [Str.ofString "names", Str.ofString "ways", Str.ofString "begin"] [d0, d1, d2] := by
 intro A s Q E vs us hh S hv hu q
 obtain _ | ⟨a0, hv⟩ := hv
 obtain _ | ⟨a1, hv⟩ := hv
 obtain _ | ⟨a2, hv⟩ := hv
 cases hv; cases hu
 exact wpAny_of_eq (by kernel_rfl) (q _ _ _ (.refl _) (.cons a0 (.cons a1 (.cons a2 .nil))))
theorem F_told (w : World) : FnAt w 370 (fdO o370) (bo (st 82)) := fnAt_of (ca := 369) (co := o369) (by kernel_rfl) rfl rfl rfl rfl rfl rfl (by kernel_rfl) rfl (by kernel_rfl) rfl (by kernel_rfl)
theorem B_told (w : World) (d0 d1 d2 : D) : Binds w (fdO o370) [d0, d1, d2] [] [Str.ofString "names", Str.ofString "row", Str.ofString "chains"] [d0, d1, d2] := by
 intro A s Q E vs us hh S hv hu q
 obtain _ | ⟨a0, hv⟩ := hv
 obtain _ | ⟨a1, hv⟩ := hv
 obtain _ | ⟨a2, hv⟩ := hv
 cases hv; cases hu
 exact wpAny_of_eq (by kernel_rfl) (q _ _ _ (.refl _) (.cons a0 (.cons a1 (.cons a2 .nil))))
theorem F_emptied (w : World) : FnAt w 375 (fdO o375) (bo (st 83)) := fnAt_of (ca := 374) (co := o374) (by kernel_rfl) rfl rfl rfl rfl rfl rfl (by kernel_rfl) rfl (by kernel_rfl) rfl (by kernel_rfl)
theorem F_shrinks (w : World) : FnAt w 380 (fdO o380) (bo (st 84)) := fnAt_of (ca := 379) (co := o379) (by kernel_rfl) rfl rfl rfl rfl rfl rfl (by kernel_rfl) rfl (by kernel_rfl) rfl (by kernel_rfl)
theorem B_shrinks (w : World) (d0 d1 : D) : Binds w (fdO o380) [d0, d1] [] [Str.ofString "ways", Str.ofString "begin"] [d0, d1] := by
 intro A s Q E vs us hh S hv hu q
 obtain _ | ⟨a0, hv⟩ := hv
 obtain _ | ⟨a1, hv⟩ := hv
 cases hv; cases hu
 exact wpAny_of_eq (by kernel_rfl) (q _ _ _ (.refl _) (.cons a0 (.cons a1 .nil)))
theorem F_law (w : World) : FnAt w 385 (fdO o385) (bo (st 85)) := fnAt_of (ca := 384) (co := o384) (by kernel_rfl) rfl rfl rfl rfl rfl rfl (by kernel_rfl) rfl (by kernel_rfl) rfl (by kernel_rfl)
theorem B_law (w : World) (d0 : D) : Binds w (fdO o385) [d0] [] [Str.ofString "script"] [d0] := by
 intro A s Q E vs us hh S hv hu q
 obtain _ | ⟨a0, hv⟩ := hv
 cases hv; cases hu
 exact wpAny_of_eq (by kernel_rfl) (q _ _ _ (.refl _) (.cons a0 .nil))
theorem F_del (w : World) : FnAt w 217 (fdO o217) (bo (mt 4)) := fnAt_of (ca := 216) (co := o216) (by kernel_rfl) rfl rfl rfl rfl rfl rfl (by kernel_rfl) rfl (by kernel_rfl) rfl (by kernel_rfl)
theorem F_getall (w : World) : FnAt w 236 (fdO o236) (bo (mt 7)) := fnAt_of (ca := 235) (co := o235) (by kernel_rfl) rfl rfl rfl rfl rfl rfl (by kernel_rfl) rfl (by kernel_rfl) rfl (by kernel_rfl)
theorem B_getall (w : World) (d0 d1 : D) : Binds w (fdO o236) [d0, d1] [] [Str.ofString "self", Str.ofString "name"] [d0, d1] := by
 intro A s Q E vs us hh S hv hu q
 obtain _ | ⟨a0, hv⟩ := hv
 obtain _ | ⟨a1, hv⟩ := hv
 cases hv; cases hu
 exact wpAny_of_eq (by kernel_rfl) (q _ _ _ (.refl _) (.cons a0 (.cons a1 .nil)))
theorem F_keys (w : World) : FnAt w 249 (fdO o249) (bo (mt 9)) := fnAt_of (ca := 248) (co := o248) (by kernel_rfl) rfl rfl rfl rfl rfl rfl (by kernel_rfl) rfl (by kernel_rfl) rfl (by kernel_rfl)
theorem B_keys (w : World) (d0 : D) : Binds w (fdO o249) [d0] [] [Str.ofString "self"] [d0] := by
 intro A s Q E vs us hh S hv hu q
 obtain _ | ⟨a0, hv⟩ := hv
 cases hv; cases hu
 exact wpAny_of_eq (by kernel_rfl) (q _ _ _ (.refl _) (.cons a0 .nil))
theorem F_values (w : World) : FnAt w 254 (fdO o254) (bo (mt 10)) := fnAt_of (ca := 253) (co := o253) (by kernel_rfl) rfl rfl rfl rfl rfl rfl (by kernel_rfl) rfl (by kernel_rfl) rfl (by kernel_rfl)
theorem B_values (w : World) (d0 : D) : Binds w (fdO o254) [d0] [] [Str.ofString "self"] [d0] := by
 intro A s Q E vs us hh S hv hu q
 obtain _ | ⟨a0, hv⟩ := hv
 cases hv; cases hu
 exact wpAny_of_eq (by kernel_rfl) (q _ _ _ (.refl _) (.cons a0 .nil))
theorem F_items (w : World) : FnAt w 261 (fdO o261) (bo (mt 11)) := fnAt_of (ca := 260) (co := o260) (by kernel_rfl) rfl rfl rfl rfl rfl rfl (by kernel_rfl) rfl (by kernel_rfl) rfl (by kernel_rfl)
theorem F_insort (w : World) : FnAt w 47 (fdO o47) (bo (st 2)) := fnAt_of (ca := 46) (co := o46) (by kernel_rfl) rfl rfl rfl rfl rfl rfl (by kernel_rfl) rfl (by kernel_rfl) rfl (by kernel_rfl)
theorem F_bright (w : World) : FnAt w 56 (fdO o56) (bo (st 3)) := fnAt_of (ca := 55) (co := o55) (by kernel_rfl) rfl rfl rfl rfl rfl rfl (by kernel_rfl) rfl (by kernel_rfl) rfl (by kernel_rfl)
theorem F_bleft (w : World) : FnAt w 65 (fdO o65) (bo (st 4)) := fnAt_of (ca := 64) (co := o64) (by kernel_rfl) rfl rfl rfl rfl rfl rfl (by kernel_rfl) rfl (by kernel_rfl) rfl (by kernel_rfl)
theorem F_init (w : World) : FnAt w 191 (fdO o191) (bo (mt 0)) := fnAt_of (ca := 190) (co := o190) (by kernel_rfl) rfl rfl rfl rfl rfl rfl (by kernel_rfl) rfl (by kernel_rfl) rfl (by kernel_rfl)
theorem F_conv (w : World) : FnAt w 198 (fdO o198) (bo (mt 1)) := fnAt_of (ca := 197) (co := o197) (by kernel_rfl) rfl rfl rfl rfl rfl rfl (by kernel_rfl) rfl (by kernel_rfl) rfl (by kernel_rfl)
theorem F_add (w : World) : FnAt w 294 (fdO o294) (bo (mt 16)) := fnAt_of (ca := 293) (co := o293) (by kernel_rfl) rfl rfl rfl rfl rfl rfl (by kernel_rfl) rfl (by kernel_rfl) rfl (by kernel_rfl)
theorem lookup_mem {α β : Type} [BEq α] [LawfulBEq α] : ∀ {l : List (α × β)} {a : α} {b : β}, l.lookup a = some b → (a, b) ∈ l
 | (a', b') :: l, a, b, h => by
  rw [List.lookup_cons] at h
  split at h
  ·rename_i e; cases h; rw [eq_of_beq e]; exact .head _
  ·exact .tail _ (lookup_mem h)
theorem frag_in {w : World} {h : Heap} (S : SaysT w h) : ∀ {K : Frag} {as : List Addr}, as = K.map (·.1) → as.map (H1 w.params).get? = K.map (fun p => some p.2) → as.all (fun a => a != TF) = true → K.In h := fun {K as} e1 e2 e3 a o e => by
 have h1 : (H1 w.params).get? a = some o := Frag.in_of e1 e2 a o e
 refine S.get a o ?_ (fun z => z) h1
 rintro rfl
 have : (TF, o) ∈ K := lookup_mem e
 have := List.all_eq_true.mp e3 TF (by rw [e1]; exact List.mem_map.mpr ⟨_, this, rfl⟩)
 exact absurd this (by decide)
theorem B_bleft (w : World) (d0 d1 : D) : Binds w (fdO o65) [d0, d1] [] [Str.ofString "a", Str.ofString "x", Str.ofString "lo", Str.ofString "hi", Str.ofString "key"] [d0, d1, .int 0, .none, .none] := by
 intro A s Q E vs us hh S hv hu q
 obtain _ | @⟨v0, _, _, _, a0, hv⟩ := hv
 obtain _ | @⟨v1, _, _, _, a1, hv⟩ := hv
 cases hv
 cases hu
 exact kp_binds (K := [(57, o57), (58, o58 w.params)]) (binds := [Str.ofString "a", Str.ofString "x", Str.ofString "lo", Str.ofString "hi", Str.ofString "key"].zip [v0, v1, .int 0 318, .none, .none]) (frag_in S (as := [57, 58]) rfl (by kernel_rfl) rfl) (fun S => by kernel_rfl) _ A E Q (q [v0, v1, .int 0 318, .none, .none] _ _ (.refl _) (.cons a0 (.cons a1 (.cons (.int 0 318) (.cons .none (.cons .none .nil))))))
theorem B_bleftK (w : World) (d0 d1 d2 : D) : Binds w (fdO o65) [d0, d1] [(Str.ofString "key", d2)] [Str.ofString "a", Str.ofString "x", Str.ofString "lo", Str.ofString "hi", Str.ofString "key"] [d0, d1, .int 0, .none, d2] := by
 intro A s Q E vs us hh S hv hu q
 obtain _ | @⟨v0, _, _, _, a0, hv⟩ := hv
 obtain _ | @⟨v1, _, _, _, a1, hv⟩ := hv
 cases hv
 obtain _ | @⟨v2, _, _, _, a2, hu⟩ := hu
 cases hu
 exact kp_binds (K := [(57, o57), (58, o58 w.params)]) (binds := [Str.ofString "a", Str.ofString "x", Str.ofString "lo", Str.ofString "hi", Str.ofString "key"].zip [v0, v1, .int 0 318, .none, v2]) (frag_in S (as := [57, 58]) rfl (by kernel_rfl) rfl) (fun S => by kernel_rfl) _ A E Q (q [v0, v1, .int 0 318, .none, v2] _ _ (.refl _) (.cons a0 (.cons a1 (.cons (.int 0 318) (.cons .none (.cons a2 .nil))))))
theorem B_bright (w : World) (d0 d1 d2 d3 : D) : Binds w (fdO o56) [d0, d1, d2, d3] [] [Str.ofString "a", Str.ofString "x", Str.ofString "lo", Str.ofString "hi", Str.ofString "key"] [d0, d1, d2, d3, .none] := by
 intro A s Q E vs us hh S hv hu q
 obtain _ | @⟨v0, _, _, _, a0, hv⟩ := hv
 obtain _ | @⟨v1, _, _, _, a1, hv⟩ := hv
 obtain _ | @⟨v2, _, _, _, a2, hv⟩ := hv
 obtain _ | @⟨v3, _, _, _, a3, hv⟩ := hv
 cases hv
 cases hu
 exact kp_binds (K := [(48, o48), (49, o49 w.params)]) (binds := [Str.ofString "a", Str.ofString "x", Str.ofString "lo", Str.ofString "hi", Str.ofString "key"].zip [v0, v1, v2, v3, .none]) (frag_in S (as := [48, 49]) rfl (by kernel_rfl) rfl) (fun S => by kernel_rfl) _ A E Q (q [v0, v1, v2, v3, .none] _ _ (.refl _) (.cons a0 (.cons a1 (.cons a2 (.cons a3 (.cons .none .nil))))))
theorem B_conv (w : World) (d0 d1 d2 : D) : Binds w (fdO o198) [d0, d1] [(Str.ofString "name", d2)] [Str.ofString "self", Str.ofString "value", Str.ofString "name"] [d0, d1, d2] := by
 intro A s Q E vs us hh S hv hu q
 obtain _ | @⟨v0, _, _, _, a0, hv⟩ := hv
 obtain _ | @⟨v1, _, _, _, a1, hv⟩ := hv
 cases hv
 obtain _ | @⟨v2, _, _, _, a2, hu⟩ := hu
 cases hu
 exact kp_binds (K := []) (binds := [Str.ofString "self", Str.ofString "value", Str.ofString "name"].zip [v0, v1, v2]) (frag_in S (as := []) rfl (by kernel_rfl) rfl) (fun S => by kernel_rfl) _ A E Q (q [v0, v1, v2] _ _ (.refl _) (.cons a0 (.cons a1 (.cons a2 .nil))))
theorem getD_map_int {l : List Int} {i : Nat} {x : Int} (h : l[i]? = some x) : (l.map D.int)[(i : Int).toNat]? = some (D.int x) := by
 rw [Int.toNat_natCast, List.getElem?_map, h]; rfl
inductive Up (above : List Int) : Nat → List Nat → Prop
 | root {v : Nat} : above[v]? = some (v : Int) → Up above v [v]
 | step {v p : Nat} {l : List Nat} : above[v]? = some (p : Int) → p ≠ v → Up above p l → Up above v (l ++ [v])
noncomputable def dNats (l : List Nat) : D := .lst (l.map fun (n : Nat) => .int n)
theorem Up.ne {above : List Int} {v : Nat} {l : List Nat} (h : Up above v l) : ∃ p : Nat, above[v]? = some (p : Int) := by
 cases h <;> exact ⟨_, by assumption⟩
theorem Up.split {above : List Int} {v : Nat} {l : List Nat} (h : Up above v l) : (above[v]? = some (v : Int) ∧ l = [v]) ∨ ∃ p l', above[v]? = some ((p : Nat) : Int) ∧ p ≠ v ∧ Up above p l' ∧ l = l' ++ [v] := by
 cases h with
 | root h => exact .inl ⟨h, rfl⟩
 | step h n h' => exact .inr ⟨_, _, h, n, h', rfl⟩
theorem up_lt {above : List Int} {v : Nat} {x : Int} (h : above[v]? = some x) (hl : above.length ≤ 100) : (v : Int) < 2 ^ 63 := by
 have := (List.getElem?_eq_some_iff.mp h).1
 lia
theorem chain_ok (w : World) (n : Nat) (above : List Int) (k : Nat) (full : List Nat) (hU : Up above k full) (hf : full.length ≤ 100) (hl : above.length ≤ 100) : FnOK w (n + 1) 343 [.lst (above.map .int), .int k] [] (dNats full) := by
 refine fn_ok (F_chain w) (ps := [Str.ofString "above", Str.ofString "k"]) (ds := [.lst (above.map .int), .int k]) (hids := [Str.ofString "chain"]) (B_chain w _ _) rfl (by decide +kernel) (by kernel_rfl) ?_
 ·let ρo : List Nat → Rho := fun l => [(Str.ofString "above", .dat false (.lst (above.map .int))), (Str.ofString "k", .dat false (.int k)), (Str.ofString "chain", .dat true (dNats l))]
  show Ex w n (sc (st 77)) [(Str.ofString "above", .dat false (.lst (above.map .int))), (Str.ofString "k", .dat false (.int k)), (Str.ofString "chain", .hid)] (bo (st 77)) _ _
  conv in bo (st 77) => whnf
  obtain ⟨p, hp⟩ := hU.ne
  refine ex_cons (es_if (K := fun r => r = _) (ts_cmp (ev_sub (ev_dat m0) (ev_dat m1) (sub_list (by lia) (up_lt hp hl) (getD_map_int hp))) (ev_neg ev_int) cmp_eqI) (fun h => ?_) (fun _ => ex_nil rfl)) fun _ e => e ▸ ?_
  ·exfalso; simp only [beq_iff_eq] at h; lia
  refine ex_seq (es_assign (fr := true) (d := dNats [k]) (ev_list (md := .fresh) (evl_cons (ev_dat m1) evl_nil)) u2) ?_
  refine ex_cons (es_while (K := fun r => r = ρo full) ρo (fun x => ∃ l v t, x = v :: t ∧ Up above v l ∧ full = l ++ t) (fun x => match x with
   | v :: _ => (above[v]?.getD 0) != (v : Int)
   | _ => false) (fun x => match x with
   | v :: t => (above[v]?.getD 0).toNat :: v :: t
   | _ => []) (fun x => full.length - x.length) [k] rfl ⟨full, k, [], rfl, hU, by simp⟩ ?_ ?_ ?_ ?_) fun _ e => e ▸ ?_
  ·rintro _ ⟨l, v, t, rfl, hv, rfl⟩
   obtain ⟨p, hp⟩ := hv.ne
   have h0 : ∀ {p q r : Pos}, Ev w n (sc (st 77)) (ρo (v :: t)) .flat (.Subscript (.Name (Str.ofString "chain") p) (.Constant (.int 0) 0 q) r) (.int v) := fun {_ _ _} => (ev_sub (ev_dat m2) ev_int (sub_list (by lia) (by lia) rfl)).up
   refine ts_cmp (ev_sub (ev_dat m0) h0 (sub_list (by lia) (up_lt hp hl) (getD_map_int hp))) h0 ?_
   show Cmp _ _ _ _ _ _ _ _ _ ((above[v]?.getD 0) != (v : Int))
   rw [hp]
   exact cmp_neI
  ·rintro _ ⟨l, v, t, rfl, hv, rfl⟩ hb
   obtain ⟨p, hp⟩ := hv.ne
   have h0 : ∀ {p q r : Pos}, Ev w n (sc (st 77)) (ρo (v :: t)) .flat (.Subscript (.Name (Str.ofString "chain") p) (.Constant (.int 0) 0 q) r) (.int v) := fun {_ _ _} => (ev_sub (ev_dat m2) ev_int (sub_list (by lia) (by lia) rfl)).up
   refine ex_seq (es_assign (fr := true) (d := dNats (p :: v :: t)) (ev_bin (ev_list (md := .fresh) (evl_cons (ev_sub (ev_dat m0) h0 (sub_list (by lia) (up_lt hp hl) (getD_map_int hp))) evl_nil)) (ev_dat m2) (bin_addL (md := .fresh) ?_)) u2) (ex_nil ?_)
   ·have := (congrArg List.length (rfl : (l ++ t) = l ++ t)); simp only [List.length_append] at hf; simp; show _ ≤ 16777216; lia
   ·show _ = ρo ((above[v]?.getD 0).toNat :: v :: t)
    rw [hp]; rfl
  ·rintro _ ⟨l, v, t, rfl, hv, rfl⟩ hb
   rcases hv.split with ⟨hp, rfl⟩ | ⟨p, l', hp, ne, hu, rfl⟩
   ·simp [hp] at hb
   ·refine ⟨⟨l', p, v :: t, ?_, hu, by simp⟩, ?_⟩
    ·show (above[v]?.getD 0).toNat :: v :: t = _
     rw [hp]; simp
    ·show (l' ++ [v] ++ t).length - (_ :: v :: t).length < _
     simp
     cases hu with
     | root => simp; lia
     | step => simp; lia
  ·rintro _ ⟨l, v, t, rfl, hv, rfl⟩ hb
   rcases hv.split with ⟨hp, rfl⟩ | ⟨p, l', hp, ne, hu, rfl⟩
   ·rfl
   ·simp [hp] at hb; lia
  exact ex_return (ev_dat m2) rfl
noncomputable def intV : Value → Option Int
 | .int i _ => some i
 | _ => none
theorem ev_globI {w : World} {k : Nat} {sc : Scope} {ρ : Rho} {x : Str} {pos : Pos} {i : Int} (hg : isGlob sc x = true := by kernel_rfl) (hx : ((H1 w.params).nsMap mainGlobals x).bind intV = some i := by kernel_rfl) : Ev w k sc ρ .flat (.Name x pos) (.int i) := by
 cases h : (H1 w.params).nsMap mainGlobals x with
 | none => rw [h] at hx; cases hx
 | some v =>
  rw [h] at hx
  cases v <;> cases hx
  exact ev_num (evv_glob hg h)
noncomputable def chOf (n : Nat) : Str := ⟨#[n]⟩
theorem ib1_ok (w : World) (k n : Nat) : FnOK w (k + 1) 83 [.str (chOf n)] [] (.bool (unseen n)) := by
 refine fn_ok (F_ib1 w) (hids := []) (B_ib1 w _) rfl (by decide +kernel) (by kernel_rfl) ?_
 show Ex w k (sc (st 7)) [(Str.ofString "code", .dat false (.str (chOf n)))] (bo (st 7)) _ _
 conv in bo (st 7) => whnf
 exact ex_return (ev_in73 (ev_b1 evv_builtin (ev_dat m0) bi_ord) evv_glob) rfl
theorem term_ok (w : World) (k : Nat) (n : Int) : FnOK w (k + 1) 139 [.int n] [] (.bool (decide (n < 256))) := by
 refine fn_ok (F_term w) (hids := []) (B_term w _) rfl (by decide +kernel) (by kernel_rfl) ?_
 show Ex w k (sc (st 62)) [(Str.ofString "x", .dat false (.int n))] (bo (st 62)) _ _
 conv in bo (st 62) => whnf
 exact ex_return (ev_cmp (ev_dat m0) ev_globI cmp_ltI) rfl
theorem nont_ok (w : World) (k : Nat) (n : Int) : FnOK w (k + 1) 146 [.int n] [] (.bool (decide (n ≥ 256))) := by
 refine fn_ok (F_nont w) (hids := []) (B_nont w _) rfl (by decide +kernel) (by kernel_rfl) ?_
 show Ex w k (sc (st 63)) [(Str.ofString "x", .dat false (.int n))] (bo (st 63)) _ _
 conv in bo (st 63) => whnf
 exact ex_return (ev_cmp (ev_dat m0) ev_globI cmp_geI) rfl
theorem eof_ok (w : World) (k : Nat) (n : Int) : FnOK w (k + 1) 153 [.int n] [] (.bool (n == 0)) := by
 refine fn_ok (F_eof w) (hids := []) (B_eof w _) rfl (by decide +kernel) (by kernel_rfl) ?_
 show Ex w k (sc (st 64)) [(Str.ofString "x", .dat false (.int n))] (bo (st 64)) _ _
 conv in bo (st 64) => whnf
 exact ex_return (ev_cmp (ev_dat m0) ev_globI cmp_eqI) rfl
noncomputable def mapB3 (n : Nat) : Str := (fold? n).getD (Txt.lower (chOf n))
theorem mb3_ok (w : World) (k n : Nat) : FnOK w (k + 1) 129 [.str (chOf n)] [] (.str (mapB3 n)) := by
 refine fn_ok (F_mb3 w) (hids := [Str.ofString "r"]) (B_mb3 w _) rfl (by decide +kernel) (by kernel_rfl) ?_
 show Ex w k (sc (st 9)) [(Str.ofString "code", .dat false (.str (chOf n))), (Str.ofString "r", .hid)] (bo (st 9)) _ _
 conv in bo (st 9) => whnf
 refine ex_seq (es_assign (fr := false) (ev_get84 evv_glob (ev_b1 evv_builtin (ev_dat m0) bi_ord)) u1) ?_
 unfold mapB3
 cases fold? (n : Int) with
 | none =>
  refine ex_cons (es_if (K := fun r => r = _) (ts_cmp (ev_dat m1) ev_none cmp_isNot) (fun h => by cases h) (fun _ => ex_nil rfl)) fun _ e => e ▸ ?_
  exact ex_return (ev_me0 (ev_dat m0) (fun s N v a => is_str a) PySem.F.plainAttrs_str PySem.F.slot_str_lower PySem.F.type_str_lower (bi_lower (Nat.le_of_ble_eq_true rfl))) rfl
 | some x =>
  refine ex_cons (es_if (K := fun _ => False) (ts_cmp (ev_dat m1) ev_none (cmp_isNot_no rfl)) (fun h => ex_return (ev_dat m1) rfl) (fun h => by cases h)) fun _ e => e.elim
section
variable {w : World} {k : Nat} {sc : Scope} {ρ ρ' : Rho} {md m₁ m₂ : Md} {d d₁ d₂ : D} {e e₁ e₂ : PySem.Expr} {pos p₁ p₂ : Pos} {st : Stmt} {ss : List Stmt} {K : Rho → Prop} {R : D → Prop} {ds : List D}
theorem ev_ownN {x : Str} (hx : (x, .own false ds) ∈ ρ) (hv : isVar sc x = true := by kernel_rfl) : Ev w k sc ρ .new (.Name x pos) (.lst ds) := fun A c s Q E R S q => by
 obtain ⟨v, l, o, m, vs, p, a⟩ := S.vals x _ hx
 obtain ⟨h1, h2, h3⟩ := isVar.kind S hv
 cases (show v = .ref (c.ad x) from o)
 exact look S h1 l (q _ s (.refl s) (.lst ⟨(S.mutO _ m.1).1, m.2⟩ p.isList (a.weak fun _ n => ⟨n.1, n.2.2⟩))) h2 h3
theorem getD_map {α β : Type} (f : α → β) {l : List α} {i : Nat} {a : α} (h : i < l.length) : (l.map f)[i]? = some (f (l.getD i a)) := by
 rw [List.getElem?_map, List.getD_eq_getElem?_getD, List.getElem?_eq_getElem h]; rfl
theorem sub_str {value slice : PySem.Expr} {x : Str} {a : Int} {i n : Nat} (hn : x.cps.toList[i]? = some n) (h1 : i < 2 ^ 62) (ha : a = (i : Int)) (hs : PlainSub slice := by intro _ _; rfl) : Sub w k sc ρ value slice m₁ (.str x) m₂ (.int a) .flat (.str ⟨#[n]⟩) := fun A c s Q E v₁ v₂ R S h₁ h₂ q => by
 subst ha
 refine h₂.cI fun _ => ?_
 refine h₁.cS fun _ => ?_
 have hl : i < x.length := by have := (List.getElem?_eq_some_iff.mp hn).1; simpa [PySem.Str.length] using this
 refine tail_any (typeIs_str s _ _) PySem.F.slot_str_getitem.lookup (PyProof.Rows.getItem_str (c := n) (by simp; lia) ?_ (q _ _ (.toks s _) (.str _ _))) (hs _ _)
 have : seqIndex? (i : Int) x.length = some i := by
  unfold seqIndex?
  simp
  lia
 rw [this]
 simpa using hn
end
noncomputable abbrev sz (x : String) : Str := Str.ofString x
noncomputable def spellL : List (List Str) := [[sz "f", sz "F", ⟨#[119813]⟩], [⟨#[64256]⟩, sz "fF", ⟨#[119865]⟩ ++ sz "f"], [⟨#[64257]⟩, sz "F" ++ ⟨#[173]⟩ ++ sz "i", sz "f" ++ ⟨#[8464]⟩], [⟨#[64258]⟩, sz "fL", sz "f" ++ ⟨#[8466]⟩], [⟨#[64259]⟩, ⟨#[64256]⟩ ++ sz "I", sz "f" ++ ⟨#[64257]⟩], [⟨#[64260]⟩, ⟨#[64256]⟩ ++ sz "l", sz "F" ++ ⟨#[64258]⟩]]
noncomputable def markL : List Str := [sz "->", sz ">>", sz "<<", sz "=="]
noncomputable def unL : List Str := [sz "", ⟨#[8203]⟩, ⟨#[8288]⟩]
noncomputable def spelt (i j : Nat) : Str := (spellL.getD i []).getD j ⟨#[]⟩
noncomputable def markOf (x : Nat) : Str := markL.getD (x % 4) ⟨#[]⟩
noncomputable def leftOf (x : Nat) : Nat := x / 4 % 6
noncomputable def rightOf (x : Nat) : Nat := x / 24 % 6
noncomputable def written (x : Nat) : Str := spelt (leftOf x) (x / 144 % 3) ++ Txt.slice (markOf x) none (some 1) ++ unL.getD (x / 1296 % 3) ⟨#[]⟩ ++ Txt.slice (markOf x) (some 1) none ++ spelt (rightOf x) (x / 432 % 3)
noncomputable def waysOf (x : Nat) : List (Nat × Nat) := (if markOf x != sz "<<" then [(leftOf x, rightOf x)] else []) ++ (if markOf x == sz "<<" || markOf x == sz "==" then [(rightOf x, leftOf x)] else [])
noncomputable def dPair (p : Nat × Nat) : D := .tup [.int p.1, .int p.2]
noncomputable def dWays (l : List (Nat × Nat)) : D := .lst (l.map dPair)
noncomputable def dDrawn (x : Nat) : D := .tup [.str (written x), dWays (waysOf x)]
noncomputable def dSpell : List D := spellL.map fun l => .lst (l.map .str)
theorem len_spelt : spellL.all (fun l => l.all fun x => Nat.ble x.length 3) = true := by decide +kernel
theorem lt_spelt (i j : Nat) : (spelt i j).length ≤ 3 := by
 unfold spelt
 rw [List.getD_eq_getElem?_getD, List.getD_eq_getElem?_getD]
 cases h : spellL[i]? with
 | none => exact Nat.le_of_ble_eq_true rfl
 | some l =>
  cases h' : l[j]? with
  | none => simp [h']; exact Nat.le_of_ble_eq_true rfl
  | some x =>
   have := List.all_eq_true.mp (List.all_eq_true.mp len_spelt l (List.mem_of_getElem? h)) x (List.mem_of_getElem? h')
   simp [h']
   exact Nat.le_of_ble_eq_true this
theorem spell_at (x : Nat) : dSpell[((x : Int) / 4 % 6).toNat]? = some (.lst ((spellL.getD (leftOf x) []).map .str)) := by
 rw [show ((x : Int) / 4 % 6).toNat = leftOf x by unfold leftOf; lia]
 exact getD_map _ (by unfold leftOf; show _ < 6; lia)
theorem spell_at' (x : Nat) : dSpell[((x : Int) / 24 % 6).toNat]? = some (.lst ((spellL.getD (rightOf x) []).map .str)) := by
 rw [show ((x : Int) / 24 % 6).toNat = rightOf x by unfold rightOf; lia]
 exact getD_map _ (by unfold rightOf; show _ < 6; lia)
theorem spell_len : ∀ i < 6, (spellL.getD i []).length = 3 := by decide +kernel
theorem drawn_ok (w : World) (k x : Nat) (hx : x < 3888) : FnOK w (k + 1) 308 [.int x] [] (dDrawn x) := by
 refine fn_ok (F_drawn w) (hids := [sz "spellings", sz "mark", sz "left", sz "right", sz "unseen", sz "written", sz "ways"]) (B_drawn w _) rfl (by decide +kernel) (by kernel_rfl) ?_
 show Ex w k (sc (st 72)) [(sz "x", .dat false (.int x)), (sz "spellings", .hid), (sz "mark", .hid), (sz "left", .hid), (sz "right", .hid), (sz "unseen", .hid), (sz "written", .hid), (sz "ways", .hid)] (bo (st 72)) _ _
 conv in bo (st 72) => whnf
 have l0 : 0 ≤ (x : Int) / 4 % 6 ∧ (x : Int) / 4 % 6 < 6 := by lia
 have r0 : 0 ≤ (x : Int) / 24 % 6 ∧ (x : Int) / 24 % 6 < 6 := by lia
 have c1 : ∀ {ρ : Rho} {n : Int} {p q r : Pos} {t}, 0 ≤ n → n < 1114112 → Ev w k (sc (st 72)) ρ .flat (.Call (.Name (sz "chr") p) [.Constant (.int n) t q] [] r) (.str ⟨#[n.toNat]⟩) := fun h0 h1 => ev_b1 evv_builtin ev_int (bi_chr h0 h1)
 refine ex_seq (es_assign (fr := true) (d := .lst dSpell) (ev_list (md := .fresh) (
  evl_cons (ev_list (md := .fresh) (evl_cons ev_str (evl_cons ev_str (evl_cons (c1 (by decide) (by decide)) evl_nil)))) (
  evl_cons (ev_list (md := .fresh) (evl_cons (c1 (by decide) (by decide)) (evl_cons ev_str (evl_cons (ev_bin (c1 (by decide) (by decide)) ev_str (bin_addS (Nat.le_of_ble_eq_true rfl))) evl_nil)))) (
  evl_cons (ev_list (md := .fresh) (evl_cons (c1 (by decide) (by decide)) (evl_cons (ev_bin (ev_bin ev_str (c1 (by decide) (by decide)) (bin_addS (Nat.le_of_ble_eq_true rfl))) ev_str (bin_addS (Nat.le_of_ble_eq_true rfl))) (evl_cons (ev_bin ev_str (c1 (by decide) (by decide)) (bin_addS (Nat.le_of_ble_eq_true rfl))) evl_nil)))) (
  evl_cons (ev_list (md := .fresh) (evl_cons (c1 (by decide) (by decide)) (evl_cons ev_str (evl_cons (ev_bin ev_str (c1 (by decide) (by decide)) (bin_addS (Nat.le_of_ble_eq_true rfl))) evl_nil)))) (
  evl_cons (ev_list (md := .fresh) (evl_cons (c1 (by decide) (by decide)) (evl_cons (ev_bin (c1 (by decide) (by decide)) ev_str (bin_addS (Nat.le_of_ble_eq_true rfl))) (evl_cons (ev_bin ev_str (c1 (by decide) (by decide)) (bin_addS (Nat.le_of_ble_eq_true rfl))) evl_nil)))) (
  evl_cons (ev_list (md := .fresh) (evl_cons (c1 (by decide) (by decide)) (evl_cons (ev_bin (c1 (by decide) (by decide)) ev_str (bin_addS (Nat.le_of_ble_eq_true rfl))) (evl_cons (ev_bin ev_str (c1 (by decide) (by decide)) (bin_addS (Nat.le_of_ble_eq_true rfl))) evl_nil)))) evl_nil))))))) u1) ?_
 let ρ₁ : Str → Nat → List D → Rho := fun m n ws => [(sz "x", .dat false (.int x)), (sz "spellings", .dat true (.lst dSpell)), (sz "mark", .dat false (.str m)), (sz "left", .dat false (.int ((x : Int) / 4 % 6))), (sz "right", .dat false (.int ((x : Int) / 24 % 6))), (sz "unseen", .dat false (.str (unL.getD (x / 1296 % 3) ⟨#[]⟩))), (sz "written", .dat false (.str (written x))), (sz "ways", .own false ws)]
 have hmark : ((markL.map D.str)[((x : Int) % 4).toNat]? = some (.str (markOf x))) := by
  rw [show ((x : Int) % 4).toNat = x % 4 by lia]
  exact getD_map _ (by show _ < 4; lia)
 have hun : ((unL.map D.str)[((x : Int) / 1296 % 3).toNat]? = some (.str (unL.getD (x / 1296 % 3) ⟨#[]⟩))) := by
  rw [show ((x : Int) / 1296 % 3).toNat = x / 1296 % 3 by lia]
  exact getD_map _ (by show _ < 3; lia)
 have two : ∀ {ρ : Rho} {a b : Int} {p q r t z : Pos} {u v}, (sz "x", .dat false (.int x)) ∈ ρ → 0 < a → a < 1073741824 → 0 < b → Ev w k (sc (st 72)) ρ .flat (.BinOp (.BinOp (.Name (sz "x") p) .FloorDiv (.Constant (.int a) u q) r) .Mod (.Constant (.int b) v t) z) (.int ((x : Int) / a % b)) := fun hm h1 h2 h3 => ev_bin (ev_bin (ev_dat hm) ev_int (bin_fdiv h1 h2)) ev_int (bin_mod h3)
 refine ex_seq (es_assign (fr := false) (d := .str (markOf x)) (ev_sub (ev_list (md := .fresh) (evl_cons ev_str (evl_cons ev_str (evl_cons ev_str (evl_cons ev_str evl_nil))))) (ev_bin (ev_dat m0) ev_int (bin_mod (by decide))) (sub_list (by lia) (by lia) hmark)) u2) ?_
 refine ex_seq (es_assign (fr := false) (two m0 (by decide) (by decide) (by decide)) u3) ?_
 refine ex_seq (es_assign (fr := false) (two m0 (by decide) (by decide) (by decide)) u4) ?_
 refine ex_seq (es_assign (fr := false) (d := .str (unL.getD (x / 1296 % 3) ⟨#[]⟩)) (ev_sub (ev_list (md := .fresh) (evl_cons ev_str (evl_cons (c1 (by decide) (by decide)) (evl_cons (c1 (by decide) (by decide)) evl_nil)))) (two m0 (by decide) (by decide) (by decide)) (sub_list (by lia) (by lia) hun)) u5) ?_
 have hl : ((spellL.getD (leftOf x) []).map D.str)[((x : Int) / 144 % 3).toNat]? = some (.str (spelt (leftOf x) (x / 144 % 3))) := by
  rw [show ((x : Int) / 144 % 3).toNat = x / 144 % 3 by lia]
  exact getD_map _ (by rw [spell_len _ (by unfold leftOf; lia)]; lia)
 have hr : ((spellL.getD (rightOf x) []).map D.str)[((x : Int) / 432 % 3).toNat]? = some (.str (spelt (rightOf x) (x / 432 % 3))) := by
  rw [show ((x : Int) / 432 % 3).toNat = x / 432 % 3 by lia]
  exact getD_map _ (by rw [spell_len _ (by unfold rightOf; lia)]; lia)
 have z1 := lt_spelt (leftOf x) (x / 144 % 3)
 have z2 := lt_spelt (rightOf x) (x / 432 % 3)
 have zm : ∀ m ∈ [markOf x, Txt.slice (markOf x) none (some 1), Txt.slice (markOf x) (some 1) none, unL.getD (x / 1296 % 3) ⟨#[]⟩], m.length ≤ 3 := by
  have h1 : ∀ i < 4, (markL.getD i ⟨#[]⟩).length ≤ 3 ∧ (Txt.slice (markL.getD i ⟨#[]⟩) none (some 1)).length ≤ 3 ∧ (Txt.slice (markL.getD i ⟨#[]⟩) (some 1) none).length ≤ 3 := by decide +kernel
  have h2 : ∀ i < 3, (unL.getD i ⟨#[]⟩).length ≤ 3 := by decide +kernel
  have h3 := h1 (x % 4) (by lia)
  intro m hm
  simp only [List.mem_cons, List.not_mem_nil, or_false] at hm
  rcases hm with rfl | rfl | rfl | rfl
  ·exact h3.1
  ·exact h3.2.1
  ·exact h3.2.2
  ·exact h2 _ (by lia)
 have sl : sizeLine = 16777216 := rfl
 have app : ∀ a b : Str, (a ++ b).length = a.length + b.length := PySem.Str.length_append
 refine ex_seq (es_assign (fr := false) (d := .str (written x)) (ev_bin (ev_bin (ev_bin (ev_bin (ev_sub (ev_sub (ev_dat m1) (ev_dat m3) (sub_list l0.1 (by lia) (spell_at x))) (two m0 (by decide) (by decide) (by decide)) (sub_list (by lia) (by lia) hl)) (ev_sliceS (ev_dat m2) evo_none (evo_some ev_int) ?_) (bin_addS ?_)) (ev_dat m5) (bin_addS ?_)) (ev_sliceS (ev_dat m2) (evo_some ev_int) evo_none ?_) (bin_addS ?_)) (ev_sub (ev_sub (ev_dat m1) (ev_dat m4) (sub_list r0.1 (by lia) (spell_at' x))) (two m0 (by decide) (by decide) (by decide)) (sub_list (by lia) (by lia) hr)) (bin_addS ?_)) u6) ?_
 ·rw [sl]; have := zm _ (.head _); lia
 ·rw [sl]; have := zm _ (.tail _ (.head _)); lia
 ·rw [sl, app]; have := zm _ (.tail _ (.head _)); have := zm _ (.tail _ (.tail _ (.tail _ (.head _)))); lia
 ·rw [sl]; have := zm _ (.head _); lia
 ·rw [sl, app, app]; have := zm _ (.tail _ (.head _)); have := zm _ (.tail _ (.tail _ (.head _))); have := zm _ (.tail _ (.tail _ (.tail _ (.head _)))); lia
 ·rw [sl, app, app, app]; have := zm _ (.tail _ (.head _)); have := zm _ (.tail _ (.tail _ (.head _))); have := zm _ (.tail _ (.tail _ (.tail _ (.head _)))); lia
 refine ex_seq (es_new (ds := []) (md := .fresh) evl_nil u7) ?_
 have el : ((leftOf x : Nat) : Int) = (x : Int) / 4 % 6 := by unfold leftOf; lia
 have er : ((rightOf x : Nat) : Int) = (x : Int) / 24 % 6 := by unfold rightOf; lia
 let W₁ : List (Nat × Nat) := if markOf x != sz "<<" then [(leftOf x, rightOf x)] else []
 refine ex_cons (es_if (K := fun r => r = ρ₁ (markOf x) 0 (W₁.map dPair)) (ts_cmp (ev_dat m2) ev_str cmp_neS) (fun h => ?_) (fun h => ex_nil ?_)) fun _ e => e ▸ ?_
 ·refine ex_seq (es_append (ev_tuple (md := .fresh) (evl_cons (ev_dat m3) (evl_cons (ev_dat m4) evl_nil))) m7 u7 (Nat.le_of_ble_eq_true rfl)) (ex_nil ?_)
  show _ = ρ₁ (markOf x) 0 (W₁.map dPair)
  simp only [W₁, h, if_true, List.map_cons, List.map_nil, dPair, el, er, List.nil_append, ρ₁]
 ·simp only [W₁, h, ρ₁]; rfl
 have hW : W₁.length ≤ 1 := by show (if markOf x != sz "<<" then [(leftOf x, rightOf x)] else []).length ≤ 1; split <;> simp
 have hb : (markOf x == sz "<<" || (markOf x == sz "==" || (BoolOp.Or == BoolOp.And))) = (markOf x == sz "<<" || markOf x == sz "==") := by
  cases markOf x == sz "<<" <;> cases markOf x == sz "==" <;> rfl
 refine ex_cons (es_if (K := fun r => r = ρ₁ (markOf x) 0 ((waysOf x).map dPair)) (ts_boolop (allT_or (ts_cmp (ev_dat m2) ev_str cmp_eqS) fun _ => allT_or (ts_cmp (ev_dat m2) ev_str cmp_eqS) fun _ => allT_nil)) (fun h => ?_) (fun h => ex_nil ?_)) fun _ e => e ▸ ?_
 ·refine ex_seq (es_append (ev_tuple (md := .fresh) (evl_cons (ev_dat m4) (evl_cons (ev_dat m3) evl_nil))) m7 u7 (by rw [List.length_map, sl]; lia)) (ex_nil ?_)
  have e : waysOf x = W₁ ++ [(rightOf x, leftOf x)] := by
   show W₁ ++ (if (markOf x == sz "<<" || markOf x == sz "==") = true then [(rightOf x, leftOf x)] else []) = _
   rw [if_pos (hb.symm.trans h)]
  show ρ₁ (markOf x) 0 (W₁.map dPair ++ [.tup [.int ((x : Int) / 24 % 6), .int ((x : Int) / 4 % 6)]]) = ρ₁ (markOf x) 0 ((waysOf x).map dPair)
  rw [e, List.map_append, ← el, ← er]; rfl
 ·have e : waysOf x = W₁ := by
   show W₁ ++ (if (markOf x == sz "<<" || markOf x == sz "==") = true then [(rightOf x, leftOf x)] else []) = _
   rw [hb.symm.trans h]; simp
  show ρ₁ (markOf x) 0 (W₁.map dPair) = _
  rw [e]
 exact ex_return (md := .new) (ev_tuple (md := .new) (evl_cons (ev_dat m6) (evl_cons (ev_ownN m7) evl_nil))) rfl
noncomputable def prepOne (n : Nat) : Str := if unseen n then ⟨#[]⟩ else mapB3 n
noncomputable def prepS (out : Str) (n : Nat) : Str := if unseen n then out else out ++ mapB3 n
noncomputable def prepF (l : List Nat) : Str := l.foldl prepS (sz "")
theorem fold_len : foldL.all (fun x => Nat.ble x.2.length 4) = true := by decide +kernel
theorem mapB3_len (n : Nat) : (mapB3 n).length ≤ 4 := by
 unfold mapB3
 cases h : fold? (n : Int) with
 | none => exact Nat.le_trans (len_lower (chOf n)) (show 3 * 1 ≤ 4 by lia)
 | some x => exact Nat.le_of_ble_eq_true (List.all_eq_true.mp fold_len _ (lookup_mem h))
theorem prepF_len : ∀ (l : List Nat), (prepF l).length ≤ 4 * l.length := fun l => by
 have : ∀ (l : List Nat) (out : Str), (l.foldl prepS out).length ≤ out.length + 4 * l.length := by
  intro l
  induction l with
  | nil => intro out; simp
  | cons a l ih =>
   intro out
   rw [List.foldl_cons]
   have := ih (prepS out a)
   unfold prepS at this ⊢
   have h2 := mapB3_len a
   simp only [List.length_cons]
   split at this
   ·rw [if_pos (by assumption)]; lia
   ·rw [if_neg (by assumption)]
    rw [PySem.Str.length_append] at this
    lia
 have := this l (sz "")
 have e : (sz "").length = 0 := rfl
 unfold prepF; lia
theorem prepF_snoc (l : List Nat) (n : Nat) : prepF (l ++ [n]) = if unseen n then prepF l else prepF l ++ mapB3 n := by
 unfold prepF; rw [List.foldl_append]; rfl
theorem prep_ok (w : World) (k : Nat) (x : Str) (hx : x.length ≤ 1000) : FnOK w (k + 2) 315 [.str x] [] (.str (prepF x.cps.toList)) := by
 refine fn_ok (F_prep w) (hids := [sz "out", sz "sign"]) (B_prep w _) rfl (by decide +kernel) (by kernel_rfl) ?_
 show Ex w (k + 1) (sc (st 73)) [(sz "text", .dat false (.str x)), (sz "out", .hid), (sz "sign", .hid)] (bo (st 73)) _ _
 conv in bo (st 73) => whnf
 refine ex_seq (es_assign (fr := false) ev_str u1) ?_
 refine ex_cons (es_for (K := fun r => r = [(sz "text", .dat false (.str x)), (sz "out", .dat false (.str (prepF x.cps.toList))), (sz "sign", .hid)]) (fun i => [(sz "text", .dat false (.str x)), (sz "out", .dat false (.str (prepF (x.cps.toList.take i)))), (sz "sign", .hid)]) (it_str (ev_dat m0)) (.keep (.keep (.keep .nil))) (fun i d hd => ?_) ?_) fun _ e => e ▸ ?_
 ·rw [List.getElem?_map] at hd
  obtain ⟨n, hn, rfl⟩ := Option.map_eq_some_iff.mp hd
  have hi : x.cps.toList.take (i + 1) = x.cps.toList.take i ++ [n] := by
   rw [List.take_add_one, hn]; rfl
  have hz : (x.cps.toList.take i).length ≤ 1000 := by
   rw [List.length_take]; have : x.cps.toList.length = x.length := by simp [PySem.Str.length]
   lia
  refine ⟨_, bd_name (fr := false) u2, ?_⟩
  refine ex_cons (es_if (K := fun r => Weak r _) (ts_not (ts_bool (ev_call evv_glob (F_ib1 w) (evl_cons (ev_dat m2) evl_nil) (ib1_ok w k n)))) (fun h => ?_) (fun h => ex_nil ?_)) fun _ e => ex_nil e
  ·refine ex_seq (es_assign (fr := false) (ev_bin (ev_dat m1) (ev_call evv_glob (F_mb3 w) (evl_cons (ev_dat m2) evl_nil) (mb3_ok w k n)) (bin_addS ?_)) u1) (ex_nil ?_)
   ·have h1 := prepF_len (x.cps.toList.take i)
    have h2 := mapB3_len n
    show _ ≤ 16777216
    lia
   ·rw [hi, prepF_snoc, if_neg (by simpa using h)]
    exact .keep (.keep (.hide .nil))
  ·rw [hi, prepF_snoc, if_pos (by simpa using h)]
   exact .keep (.keep (.hide .nil))
 ·rw [List.length_map, List.take_length]
 ·exact ex_return (ev_dat m1) rfl
noncomputable def cutZ (x : Str) (p s : Nat) : Str := Txt.slice x (some (p : Int)) (some ((p : Int) + (s : Int)))
noncomputable def chAt (x : Str) (i : Nat) : Str := chOf ((x.cps.toList[i]?).getD 0)
noncomputable def down (x : Str) (p : Nat) : Nat → Nat
 | 0 => 0
 | s + 1 => if decide (s ≥ 1) && !isSign (cutZ x p (s + 1)) then down x p s else s + 1
noncomputable def grow (x : Str) (p : Nat) : Nat → Nat → Nat
 | 0, s => s
 | f + 1, s => if decide (p + s < x.length) && !isSign (chAt x (p + s)) then grow x p f (s + 1) else s
noncomputable def sizeAt (x : Str) (p : Nat) : Nat := if isSign (cutZ x p (down x p 3)) then down x p 3 else grow x p x.length (down x p 3)
noncomputable def cutAll (x : Str) : Nat → Nat → List Str
 | 0, _ => []
 | f + 1, p => if p < x.length then cutZ x p (sizeAt x p) :: cutAll x f (p + sizeAt x p) else []
noncomputable def piecesF (x : Str) : List Str := cutAll x x.length 0
theorem down_pos (x : Str) (p : Nat) : ∀ s, 1 ≤ s → 1 ≤ down x p s ∧ down x p s ≤ s
 | 0, h => by lia
 | s + 1, h => by
  unfold down
  split
  ·rename_i h'
   simp only [Bool.and_eq_true, decide_eq_true_eq] at h'
   have := down_pos x p s h'.1
   lia
  ·lia
theorem grow_pos (x : Str) (p : Nat) : ∀ f s, s ≤ grow x p f s ∧ (s ≤ 3 → p < x.length → grow x p f s ≤ x.length + 3)
 | 0, s => by unfold grow; lia
 | f + 1, s => by
  unfold grow
  split
  ·rename_i h'
   simp only [Bool.and_eq_true, decide_eq_true_eq] at h'
   have := grow_pos x p f (s + 1)
   have h3 : ∀ f s, s ≤ x.length → p < x.length → grow x p f s ≤ x.length := by
    intro f
    induction f with
    | zero => intro s hs _; unfold grow; lia
    | succ f ih =>
     intro s hs hp; unfold grow; split
     ·rename_i h'
      simp only [Bool.and_eq_true, decide_eq_true_eq] at h'
      exact ih _ (by lia) hp
     ·lia
   have := h3 f (s + 1) (by lia)
   lia
  ·lia
theorem sizeAt_pos (x : Str) (p : Nat) : 1 ≤ sizeAt x p ∧ (p < x.length → sizeAt x p ≤ x.length + 3) := by
 have h := down_pos x p 3 (by lia)
 have g := grow_pos x p x.length (down x p 3)
 unfold sizeAt
 split <;> lia
theorem cutAll_end (x : Str) : ∀ f p, x.length ≤ p → cutAll x f p = []
 | 0, _, _ => rfl
 | f + 1, p, h => by unfold cutAll; rw [if_neg (by lia)]
theorem cutAll_fuel (x : Str) : ∀ f p, x.length ≤ p + f → ∀ g, x.length ≤ p + g → cutAll x f p = cutAll x g p
 | 0, p, h, g, _ => by rw [cutAll_end x _ p (by lia), cutAll_end x _ p (by lia)]
 | f + 1, p, h, 0, hg => by rw [cutAll_end x _ p (by lia), cutAll_end x _ p (by lia)]
 | f + 1, p, h, g + 1, hg => by
  unfold cutAll
  have := (sizeAt_pos x p).1
  split
  ·rw [cutAll_fuel x f (p + sizeAt x p) (by lia) g (by lia)]
  ·rfl
theorem cutAll_step (x : Str) {p : Nat} (h : p < x.length) : cutAll x (x.length - p) p = cutZ x p (sizeAt x p) :: cutAll x (x.length - (p + sizeAt x p)) (p + sizeAt x p) := by
 have h1 := (sizeAt_pos x p).1
 obtain ⟨f, hf⟩ : ∃ f, x.length - p = f + 1 := ⟨x.length - p - 1, by lia⟩
 rw [hf]
 show (if p < x.length then cutZ x p (sizeAt x p) :: cutAll x f (p + sizeAt x p) else []) = _
 rw [if_pos h, cutAll_fuel x f _ (by lia) (x.length - (p + sizeAt x p)) (by lia)]
section
variable {w : World} {k : Nat} {x : Str}
noncomputable def rhoP (x : Str) (ps : List Str) (p : Nat) (l : LV) : Rho := [(sz "text", .dat false (.str x)), (sz "pieces", .own false (ps.map D.str)), (sz "place", .dat false (.int p)), (sz "size", l)]
theorem pieces_ok (w : World) (k : Nat) (x : Str) (hx : x.length ≤ 1000) : FnOK w (k + 1) 322 [.str x] [] (.lst ((piecesF x).map .str)) := by
 refine fn_ok (F_pieces w) (hids := [sz "pieces", sz "place", sz "size"]) (B_pieces w _) rfl (by decide +kernel) (by kernel_rfl) ?_
 show Ex w k (sc (st 74)) [(sz "text", .dat false (.str x)), (sz "pieces", .hid), (sz "place", .hid), (sz "size", .hid)] (bo (st 74)) _ _
 conv in bo (st 74) => whnf
 have hz : x.length ≤ sizeLine := by show _ ≤ 16777216; lia
 have sl : ∀ {ps p s} {q1 q2 q3 q4 q5 q6 q7 : Pos}, Ev w k (sc (st 74)) (rhoP x ps p (.dat false (.int (s : Nat)))) .flat (.Subscript (.Name (sz "text") q1) (.Slice (some (.Name (sz "place") q2)) (some (.BinOp (.Name (sz "place") q3) .Add (.Name (sz "size") q4) q5)) none q6) q7) (.str (cutZ x p s)) := fun {ps p s _ _ _ _ _ _ _} =>
  ev_sliceS (ev_dat m0) (evo_some (ev_dat m2)) (evo_some (ev_bin (ev_dat m2) (ev_dat m3) bin_add)) hz
 refine ex_seq (es_new (ds := []) (md := .fresh) evl_nil u1) ?_
 refine ex_seq (es_assign (fr := false) ev_int u2) ?_
 refine ex_cons (es_while (K := fun r => r = rhoP x (piecesF x) (x.length) .hid ∨ ∃ p, r = rhoP x (piecesF x) p .hid) (σ := List Str × Nat) (fun z => rhoP x z.1 z.2 .hid)
  (fun z => z.1.length ≤ z.2 ∧ z.2 ≤ 3 * x.length + 6 ∧ z.1 ++ cutAll x (x.length - z.2) z.2 = piecesF x) (fun z => decide ((z.2 : Int) < (x.length : Int))) (fun z => (z.1 ++ [cutZ x z.2 (sizeAt x z.2)], z.2 + sizeAt x z.2)) (fun z => x.length - z.2) ([], 0) rfl ⟨by simp, by lia, rfl⟩ ?_ ?_ ?_ ?_) fun _ e => ?_
 ·rintro ⟨ps, p⟩ ⟨h1, h2, h3⟩
  exact ts_cmp (ev_dat m2) (ev_b1 evv_builtin (ev_dat m0) (bi_lenS (by lia))) cmp_ltI
 ·rintro ⟨ps, p⟩ ⟨h1, h2, h3⟩ hb
  have hp : p < x.length := by simp only [decide_eq_true_eq] at hb; lia
  have hd := down_pos x p 3 (by lia)
  dsimp only at h1 h2 h3
  have hps : ps.length ≤ 3006 := by lia
  refine ex_seq (es_assign (fr := false) (d := .int (3 : Nat)) ev_int u3) ?_
  refine ex_cons (es_while (K := fun r => r = rhoP x ps p (.dat false (.int (down x p 3 : Nat)))) (σ := Nat) (fun s => rhoP x ps p (.dat false (.int (s : Nat)))) (fun s => 1 ≤ s ∧ s ≤ 3 ∧ down x p s = down x p 3)
   (fun s => decide ((s : Int) > 1) && (!isSign (cutZ x p s) && (BoolOp.And == BoolOp.And))) (fun s => s - 1) id 3 rfl ⟨by lia, by lia, rfl⟩ ?_ ?_ ?_ ?_) fun _ e => e ▸ ?_
  ·rintro s ⟨g1, g2, g3⟩
   exact ts_boolop (allT_and (ts_cmp (ev_dat m3) ev_int cmp_gtI) fun _ => allT_and (ts_notIn130 sl evv_glob) fun _ => allT_nil)
  ·rintro s ⟨g1, g2, g3⟩ gb
   refine ex_seq (es_assign (fr := false) (ev_bin (ev_dat m3) ev_int bin_subI) u3) (ex_nil ?_)
   show rhoP x ps p _ = _
   rw [show ((s : Int) - 1) = ((s - 1 : Nat) : Int) by lia]
  ·rintro s ⟨g1, g2, g3⟩ gb
   obtain ⟨t, rfl⟩ : ∃ t, s = t + 1 := ⟨s - 1, by lia⟩
   have gc : (decide (t ≥ 1) && !isSign (cutZ x p (t + 1))) = true := by
    simp only [Bool.and_eq_true, decide_eq_true_eq] at gb ⊢
    exact ⟨by lia, gb.2.1⟩
   refine ⟨⟨?_, by lia, ?_⟩, by simp⟩
   ·simp only [Bool.and_eq_true, decide_eq_true_eq] at gc; lia
   ·rw [← g3, down, if_pos gc]; rfl
  ·rintro s ⟨g1, g2, g3⟩ gb
   obtain ⟨t, rfl⟩ : ∃ t, s = t + 1 := ⟨s - 1, by lia⟩
   have gc : ¬ (decide (t ≥ 1) && !isSign (cutZ x p (t + 1))) = true := by
    intro gc
    simp only [Bool.and_eq_true, decide_eq_true_eq] at gc
    rw [gc.2] at gb
    simp at gb
    lia
   rw [← g3, down, if_neg gc]
  generalize hs : down x p 3 = s0 at hd
  refine ex_cons (es_if (K := fun r => r = rhoP x ps p (.dat false (.int (sizeAt x p : Nat)))) (ts_notIn130 sl evv_glob) (fun h => ?_) (fun h => ex_nil ?_)) fun _ e => e ▸ ?_
  ·have hn : isSign (cutZ x p s0) = false := by simpa using h
   refine ex_cons (es_while (K := fun r => r = rhoP x ps p (.dat false (.int (sizeAt x p : Nat)))) (σ := Nat) (fun s => rhoP x ps p (.dat false (.int (s : Nat)))) (fun s => s ≤ x.length + 3 ∧ ∃ f, x.length ≤ p + s + f ∧ grow x p f s = sizeAt x p)
    (fun s => decide (((p : Int) + (s : Int)) < (x.length : Int)) && (!isSign (chAt x (p + s)) && (BoolOp.And == BoolOp.And))) (fun s => s + 1) (fun s => x.length - s) s0 rfl ⟨by lia, x.length, by lia, by unfold sizeAt; rw [hs, hn]; rfl⟩ ?_ ?_ ?_ ?_) fun _ e => ex_nil e
   ·rintro s ⟨g1, f, g2, g3⟩
    refine ts_boolop (allT_and (ts_cmp (ev_bin (ev_dat m2) (ev_dat m3) bin_add) (ev_b1 evv_builtin (ev_dat m0) (bi_lenS (by lia))) cmp_ltI) fun hq => ?_)
    have hq' : p + s < x.length := by simp only [decide_eq_true_eq] at hq; lia
    have hl : p + s < x.cps.toList.length := by simpa [PySem.Str.length] using hq'
    have hc : chAt x (p + s) = ⟨#[x.cps.toList[p + s]]⟩ := by unfold chAt; rw [List.getElem?_eq_getElem hl]; rfl
    rw [hc]
    exact allT_and (ts_notIn130 (ev_sub (ev_dat m0) (ev_bin (ev_dat m2) (ev_dat m3) bin_add) (sub_str (List.getElem?_eq_getElem hl) (by lia) (by lia))) evv_glob) fun _ => allT_nil
   ·rintro s ⟨g1, f, g2, g3⟩ gb
    refine ex_seq (es_assign (fr := false) (ev_bin (ev_dat m3) ev_int bin_add) u3) (ex_nil ?_)
    rfl
   ·rintro s ⟨g1, f, g2, g3⟩ gb
    simp only [Bool.and_eq_true, decide_eq_true_eq] at gb
    have gp : p + s < x.length := by lia
    obtain ⟨f', rfl⟩ : ∃ t, f = t + 1 := ⟨f - 1, by lia⟩
    refine ⟨⟨by lia, f', by lia, ?_⟩, by lia⟩
    rw [← g3, grow, if_pos]
    simp only [Bool.and_eq_true, decide_eq_true_eq]; exact ⟨gp, gb.2.1⟩
   ·rintro s ⟨g1, f, g2, g3⟩ gb
    have gc : ¬ (decide (p + s < x.length) && !isSign (chAt x (p + s))) = true := by
     intro gc
     simp only [Bool.and_eq_true, decide_eq_true_eq] at gc
     rw [gc.2] at gb
     simp at gb
     lia
    cases f with
    | zero => rw [← g3]; rfl
    | succ f => rw [← g3, grow, if_neg gc]
  ·have hn : isSign (cutZ x p s0) = true := by simpa using h
   unfold sizeAt; rw [hs, hn]; rfl
  refine ex_seq (es_append sl m1 u1 (by rw [List.length_map]; show _ ≤ 16777216; lia)) ?_
  refine ex_seq (es_assign (fr := false) (ev_bin (ev_dat m2) (ev_dat m3) bin_add) u2) ?_
  refine Ex.weak (ρ' := rhoP x (ps ++ [cutZ x p (sizeAt x p)]) (p + sizeAt x p) .hid) (ex_nil rfl) ?_
  rw [rhoP, List.map_append]
  exact .keep (.keep (.keep (.hide .nil)))
 ·rintro ⟨ps, p⟩ ⟨h1, h2, h3⟩ hb
  have hp : p < x.length := by simp only [decide_eq_true_eq] at hb; lia
  have := sizeAt_pos x p
  dsimp only at h1 h2 h3
  refine ⟨⟨by simp; lia, by simp; lia, ?_⟩, by simp; lia⟩
  rw [cutAll_step x hp] at h3
  rw [← h3]; simp
 ·rintro ⟨ps, p⟩ ⟨h1, h2, h3⟩ hb
  have hp : x.length ≤ p := by simp only [decide_eq_false_iff_not] at hb; lia
  rw [cutAll_end x _ p hp, List.append_nil] at h3
  cases h3
  exact .inr ⟨p, rfl⟩
 ·obtain ⟨p, rfl⟩ : ∃ p, _ = rhoP x (piecesF x) p .hid := by
   rcases e with e | e
   ·exact ⟨_, e⟩
   ·exact e
  exact ex_return_own m1 rfl
end
noncomputable def bs (p : Nat → Bool) : Nat → Nat → Nat → Nat
 | 0, lo, _ => lo
 | f + 1, lo, hi => if lo < hi then (if p ((lo + hi) / 2) then bs p f ((lo + hi) / 2 + 1) hi else bs p f lo ((lo + hi) / 2)) else lo
theorem bs_fuel (p : Nat → Bool) : ∀ f lo hi, hi ≤ lo + f → ∀ g, hi ≤ lo + g → bs p f lo hi = bs p g lo hi
 | 0, lo, hi, h, 0, hg => rfl
 | 0, lo, hi, h, g + 1, hg => by unfold bs; rw [if_neg (by lia)]
 | f + 1, lo, hi, h, 0, hg => by unfold bs; rw [if_neg (by lia)]
 | f + 1, lo, hi, h, g + 1, hg => by
  unfold bs
  split
  ·rw [bs_fuel p f ((lo + hi) / 2 + 1) hi (by lia) g (by lia), bs_fuel p f lo ((lo + hi) / 2) (by lia) g (by lia)]
  ·rfl
noncomputable def half (p : Nat → Bool) (z : Nat × Nat) : Nat × Nat := if p ((z.1 + z.2) / 2) then ((z.1 + z.2) / 2 + 1, z.2) else (z.1, (z.1 + z.2) / 2)
theorem bs_step {p : Nat → Bool} {lo hi : Nat} (h : lo < hi) : bs p (hi - lo) lo hi = bs p ((half p (lo, hi)).2 - (half p (lo, hi)).1) (half p (lo, hi)).1 (half p (lo, hi)).2 := by
 obtain ⟨f, hf⟩ : ∃ f, hi - lo = f + 1 := ⟨hi - lo - 1, by lia⟩
 rw [hf, bs, if_pos h]
 unfold half
 split
 ·exact bs_fuel p _ _ _ (by lia) _ (by dsimp only; lia)
 ·exact bs_fuel p _ _ _ (by lia) _ (by dsimp only; lia)
noncomputable def bsOf (p : Nat → Bool) (n : Nat) : Nat := bs p n 0 n
noncomputable def ltAt (l : List Str) (x : Str) (i : Nat) : Bool := decide ((l.getD i ⟨#[]⟩).cps.toList < x.cps.toList)
noncomputable def geAt (l : List Str) (x : Str) (i : Nat) : Bool := !decide (x.cps.toList < (l.getD i ⟨#[]⟩).cps.toList)
noncomputable def posIn (l : List Str) (x : Str) : Nat := bsOf (ltAt l x) l.length
noncomputable def posAfter (l : List Str) (x : Str) : Nat := bsOf (geAt l x) l.length
noncomputable def rhoB (a x key mid : LV) (lo hi : Nat) : Rho := [(sz "a", a), (sz "x", x), (sz "lo", .dat false (.int lo)), (sz "hi", .dat false (.int hi)), (sz "key", key), (sz "mid", mid)]
theorem half_int (lo hi : Nat) : ((lo : Int) + (hi : Int)) / 2 = (((lo + hi) / 2 : Nat) : Int) := by lia
theorem bleft_ok (w : World) (k : Nat) (l : List Str) (x : Str) (hl : l.length ≤ 1000) : FnOK w (k + 1) 65 [.lst (l.map .str), .str x] [] (.int (posIn l x)) := by
 refine fn_ok (F_bleft w) (hids := [sz "mid"]) (B_bleft w _ _) rfl (by decide +kernel) (by kernel_rfl) ?_
 show Ex w k (sc (st 4)) [(sz "a", .dat false (.lst (l.map .str))), (sz "x", .dat false (.str x)), (sz "lo", .dat false (.int 0)), (sz "hi", .dat false .none), (sz "key", .dat false .none), (sz "mid", .hid)] (bo (st 4)) _ _
 conv in bo (st 4) => whnf
 refine ex_cons (es_if (K := fun r => r = _) (ts_cmp (ev_dat m2) ev_int cmp_ltI) (fun h => by simp at h) (fun _ => ex_nil rfl)) fun _ e => e ▸ ?_
 refine ex_cons (es_if (K := fun r => r = rhoB (.dat false (.lst (l.map .str))) (.dat false (.str x)) (.dat false .none) .hid 0 l.length) (ts_cmp (ev_dat m3) ev_none cmp_isN) (fun h => ?_) (fun h => by cases h)) fun _ e => e ▸ ?_
 ·refine ex_seq (es_assign (fr := false) (ev_b1 evv_builtin (ev_dat m0) (bi_lenL (by rw [List.length_map]; lia))) u3) (ex_nil ?_)
  rw [List.length_map]; rfl
 refine ex_cons (es_if (K := fun r => ∃ hi, r = rhoB (.dat false (.lst (l.map .str))) (.dat false (.str x)) (.dat false .none) .hid (posIn l x) hi) (ts_cmp (ev_dat m4) ev_none cmp_isN) (fun h => ?_) (fun h => by cases h)) fun _ ⟨hi, e⟩ => e ▸ ?_
 ·refine ex_cons (es_while (K := fun r => ∃ hi, r = rhoB (.dat false (.lst (l.map .str))) (.dat false (.str x)) (.dat false .none) .hid (posIn l x) hi) (σ := Nat × Nat) (fun z => rhoB (.dat false (.lst (l.map .str))) (.dat false (.str x)) (.dat false .none) .hid z.1 z.2)
   (fun z => z.2 ≤ l.length ∧ bs (ltAt l x) (z.2 - z.1) z.1 z.2 = posIn l x) (fun z => decide ((z.1 : Int) < (z.2 : Int))) (half (ltAt l x)) (fun z => z.2 - z.1) (0, l.length) rfl ⟨by simp, by simp [posIn, bsOf]⟩ ?_ ?_ ?_ ?_) fun _ e => ex_nil e
  ·rintro ⟨lo, hi⟩ ⟨h1, h2⟩
   exact ts_cmp (ev_dat m2) (ev_dat m3) cmp_ltI
  ·rintro ⟨lo, hi⟩ ⟨h1, h2⟩ hb
   dsimp only at h1 h2
   have hlt : lo < hi := by simp only [decide_eq_true_eq] at hb; lia
   have hm : (lo + hi) / 2 < l.length := by lia
   refine ex_seq (es_assign (fr := false) (ev_bin (ev_bin (ev_dat m2) (ev_dat m3) bin_add) ev_int (bin_fdiv (by decide) (by decide))) u5) ?_
   rw [half_int]
   refine ex_cons (es_if (K := fun r => r = rhoB (.dat false (.lst (l.map .str))) (.dat false (.str x)) (.dat false .none) (.dat false (.int ((lo + hi) / 2 : Nat))) (half (ltAt l x) (lo, hi)).1 (half (ltAt l x) (lo, hi)).2) (ts_cmp (ev_sub (ev_dat m0) (ev_dat m5) (sub_list (by lia) (by lia) (by rw [Int.toNat_natCast]; exact getD_map (a := (⟨#[]⟩ : Str)) _ hm))) (ev_dat m1) cmp_ltS) (fun h => ?_) (fun h => ?_)) fun _ e => e ▸ Ex.weak (ρ' := rhoB (.dat false (.lst (l.map .str))) (.dat false (.str x)) (.dat false .none) .hid (half (ltAt l x) (lo, hi)).1 (half (ltAt l x) (lo, hi)).2) (ex_nil rfl) (.keep (.keep (.keep (.keep (.keep (.hide .nil))))))
   ·refine ex_seq (es_assign (fr := false) (ev_bin (ev_dat m5) ev_int bin_add) u2) (ex_nil ?_)
    have e : half (ltAt l x) (lo, hi) = ((lo + hi) / 2 + 1, hi) := by unfold half; exact if_pos h
    rw [e]; rfl
   ·refine ex_seq (es_assign (fr := false) (ev_dat m5) u3) (ex_nil ?_)
    have e : half (ltAt l x) (lo, hi) = (lo, (lo + hi) / 2) := by unfold half; exact if_neg (by rw [show ltAt l x ((lo + hi) / 2) = false from h]; decide)
    rw [e]; rfl
  ·rintro ⟨lo, hi⟩ ⟨h1, h2⟩ hb
   dsimp only at h1 h2
   have hlt : lo < hi := by simp only [decide_eq_true_eq] at hb; lia
   refine ⟨⟨?_, (bs_step hlt).symm.trans h2⟩, ?_⟩
   ·unfold half; split <;> dsimp only <;> lia
   ·unfold half; split <;> dsimp only <;> lia
  ·rintro ⟨lo, hi⟩ ⟨h1, h2⟩ hb
   dsimp only at h1 h2
   have hlt : ¬ lo < hi := by simp only [decide_eq_false_iff_not] at hb; lia
   refine ⟨hi, ?_⟩
   rw [← h2, show hi - lo = 0 by lia]; rfl
 ·exact ex_return (ev_dat m2) rfl
theorem bright_ok (w : World) (k : Nat) (l : List Str) (x : Str) (hl : l.length ≤ 1000) : FnOK w (k + 1) 56 [.lst (l.map .str), .str x, .int 0, .none] [] (.int (posAfter l x)) := by
 refine fn_ok (F_bright w) (hids := [sz "mid"]) (B_bright w _ _ _ _) rfl (by decide +kernel) (by kernel_rfl) ?_
 show Ex w k (sc (st 3)) [(sz "a", .dat false (.lst (l.map .str))), (sz "x", .dat false (.str x)), (sz "lo", .dat false (.int 0)), (sz "hi", .dat false .none), (sz "key", .dat false .none), (sz "mid", .hid)] (bo (st 3)) _ _
 conv in bo (st 3) => whnf
 refine ex_cons (es_if (K := fun r => r = _) (ts_cmp (ev_dat m2) ev_int cmp_ltI) (fun h => by simp at h) (fun _ => ex_nil rfl)) fun _ e => e ▸ ?_
 refine ex_cons (es_if (K := fun r => r = rhoB (.dat false (.lst (l.map .str))) (.dat false (.str x)) (.dat false .none) .hid 0 l.length) (ts_cmp (ev_dat m3) ev_none cmp_isN) (fun h => ?_) (fun h => by cases h)) fun _ e => e ▸ ?_
 ·refine ex_seq (es_assign (fr := false) (ev_b1 evv_builtin (ev_dat m0) (bi_lenL (by rw [List.length_map]; lia))) u3) (ex_nil ?_)
  rw [List.length_map]; rfl
 refine ex_cons (es_if (K := fun r => ∃ hi, r = rhoB (.dat false (.lst (l.map .str))) (.dat false (.str x)) (.dat false .none) .hid (posAfter l x) hi) (ts_cmp (ev_dat m4) ev_none cmp_isN) (fun h => ?_) (fun h => by cases h)) fun _ ⟨hi, e⟩ => e ▸ ?_
 ·refine ex_cons (es_while (K := fun r => ∃ hi, r = rhoB (.dat false (.lst (l.map .str))) (.dat false (.str x)) (.dat false .none) .hid (posAfter l x) hi) (σ := Nat × Nat) (fun z => rhoB (.dat false (.lst (l.map .str))) (.dat false (.str x)) (.dat false .none) .hid z.1 z.2)
   (fun z => z.2 ≤ l.length ∧ bs (geAt l x) (z.2 - z.1) z.1 z.2 = posAfter l x) (fun z => decide ((z.1 : Int) < (z.2 : Int))) (half (geAt l x)) (fun z => z.2 - z.1) (0, l.length) rfl ⟨by simp, by simp [posAfter, bsOf]⟩ ?_ ?_ ?_ ?_) fun _ e => ex_nil e
  ·rintro ⟨lo, hi⟩ ⟨h1, h2⟩
   exact ts_cmp (ev_dat m2) (ev_dat m3) cmp_ltI
  ·rintro ⟨lo, hi⟩ ⟨h1, h2⟩ hb
   dsimp only at h1 h2
   have hlt : lo < hi := by simp only [decide_eq_true_eq] at hb; lia
   have hm : (lo + hi) / 2 < l.length := by lia
   refine ex_seq (es_assign (fr := false) (ev_bin (ev_bin (ev_dat m2) (ev_dat m3) bin_add) ev_int (bin_fdiv (by decide) (by decide))) u5) ?_
   rw [half_int]
   refine ex_cons (es_if (K := fun r => r = rhoB (.dat false (.lst (l.map .str))) (.dat false (.str x)) (.dat false .none) (.dat false (.int ((lo + hi) / 2 : Nat))) (half (geAt l x) (lo, hi)).1 (half (geAt l x) (lo, hi)).2) (ts_cmp (ev_dat m1) (ev_sub (ev_dat m0) (ev_dat m5) (sub_list (by lia) (by lia) (by rw [Int.toNat_natCast]; exact getD_map (a := (⟨#[]⟩ : Str)) _ hm))) cmp_ltS) (fun h => ?_) (fun h => ?_)) fun _ e => e ▸ Ex.weak (ρ' := rhoB (.dat false (.lst (l.map .str))) (.dat false (.str x)) (.dat false .none) .hid (half (geAt l x) (lo, hi)).1 (half (geAt l x) (lo, hi)).2) (ex_nil rfl) (.keep (.keep (.keep (.keep (.keep (.hide .nil))))))
   ·refine ex_seq (es_assign (fr := false) (ev_dat m5) u3) (ex_nil ?_)
    have e : half (geAt l x) (lo, hi) = (lo, (lo + hi) / 2) := by unfold half; exact if_neg (by unfold geAt; rw [h]; decide)
    rw [e]; rfl
   ·refine ex_seq (es_assign (fr := false) (ev_bin (ev_dat m5) ev_int bin_add) u2) (ex_nil ?_)
    have e : half (geAt l x) (lo, hi) = ((lo + hi) / 2 + 1, hi) := by unfold half; exact if_pos (by unfold geAt; rw [h]; rfl)
    rw [e]; rfl
  ·rintro ⟨lo, hi⟩ ⟨h1, h2⟩ hb
   dsimp only at h1 h2
   have hlt : lo < hi := by simp only [decide_eq_true_eq] at hb; lia
   refine ⟨⟨?_, (bs_step hlt).symm.trans h2⟩, ?_⟩
   ·unfold half; split <;> dsimp only <;> lia
   ·unfold half; split <;> dsimp only <;> lia
  ·rintro ⟨lo, hi⟩ ⟨h1, h2⟩ hb
   dsimp only at h1 h2
   have hlt : ¬ lo < hi := by simp only [decide_eq_false_iff_not] at hb; lia
   refine ⟨hi, ?_⟩
   rw [← h2, show hi - lo = 0 by lia]; rfl
 ·exact ex_return (ev_dat m2) rfl
theorem lamNames : lamScope.names = [(Str.ofString "k", .local), (Str.ofString "one", .free), (Str.ofString "two", .free)] := by kernel_rfl
section
variable {w : World} {k : Nat} {sc : Scope} {ρ : Rho} {md m₁ : Md} {d : D} {one two : List D} {i : Int}
noncomputable def rhoLam (one two : List D) (i : Int) : Rho := [(Str.ofString "k", .dat false (.int i)), (Str.ofString "one", .dat false (.lst one)), (Str.ofString "two", .dat false (.lst two))]
theorem lam_call {A : Around} {s : Shared} {v : Value} {t : Tok} {Q : Value → Shared → Prop} {E : Value → Shared → Prop} (Rm : Room A (k + 1)) (S : SaysT w s.heap) (a : At s.heap anyN v (.lam one two)) (hf : d.flat = true)
  (h : Ev w k lamScope (rhoLam one two i) md lamBody d) (q : ∀ u s', Kps s s' → At s'.heap anyN u d → Q u s') : wpAny (model pr w) A (call v [.int i t]) Q E s := by
 refine a.cF fun g c₁ c₂ cc l₁ l₂ n n₁ n₂ n₃ hL hC i₁ i₂ a₁ a₂ => ?_
 refine bc fun gG => ?_
 obtain ⟨o, fd, ho, hd, e1, e2, e3, e4, e5, nc, e6, e7, e8, e9, e10⟩ := hL
 obtain ⟨ncc, oc, hoc, ws, tq, hw, hq⟩ := hC
 obtain ⟨name, qual, params, body, scope, globals, closure, defaults, kwdefaults, doc, pm, ann, code, ct, blt⟩ := fd
 refine gG ?_; clear gG
 dsimp only at e1 e2 e3 e4 e5 e6 e7 e8 e9 e10
 subst e1 e2 e3 e4 e5 e6 e7 e8 e9 e10
 refine wpAny_call ?_
 refine kla_callFunE Rm.lim ho hd (by show lamScope.isCoroutine = false; kernel_rfl) (by show lamScope.isGenerator = false; kernel_rfl) rfl ⟨cc, oc, ws, tq, rfl, hoc, hw, hq⟩ ?_
 refine wpAny_of_eq (a := [(Str.ofString "k", Value.int i t)]) (by kernel_rfl) ?_
 refine wpAny_newFunctionEnv (fun x m => ?_) (fun x m => ?_) (fun h' hns hsb => ?_) (by kernel_rfl)
 ·rw [lamNames] at m
  simp only [List.mem_cons, List.not_mem_nil, or_false] at m
  rcases m with rfl | rfl | rfl <;> decide
 ·simp only [List.mem_cons, List.not_mem_nil, or_false] at m
  subst m; kernel_rfl
 refine bc fun gG => ?_
 obtain ⟨L, hL⟩ : ∃ L, L = s.heap.objs.size := ⟨_, rfl⟩
 refine gG ?_; clear gG
 rw [← hL] at hns hsb ⊢
 have L0 : s.heap.get? L = none := by rw [hL]; exact get_end _
 have old : ∀ b o, s.heap.get? b = some o → h'.get? b = some o := fun b o e => (hsb.2 b (by exact (ne_oo L0 e).symm)).trans (Heap.get?_push_of_some _ e)
 have k₁ : Kp s.heap h' := .of old
 have neT : L ≠ TF := by exact ne_TF S L0
 have nL : ∀ a o, s.heap.get? a = some o → a ≠ L := fun a o e => by exact (ne_oo L0 e).symm
 refine ⟨says_lim (Kp.trans S k₁), kla_codeExpr ?_⟩
 refine bc fun gG => ?_
 obtain ⟨env, henv⟩ : ∃ env, env = newEnv lamScope L mainGlobals [(Str.ofString "two", c₂), (Str.ofString "one", c₁)] (lamQual ++ Str.ofString ".<locals>.") (some g) (.ref cc) none builtinsNs := ⟨_, rfl⟩
 refine gG ?_; clear gG
 let cx : Cx := { env := env, h₀ := s.heap, f := fun x => if x = Str.ofString "k" then some (.int i t) else if x = Str.ofString "one" then some l₁ else if x = Str.ofString "two" then some l₂ else none, ad := fun _ => 0, mu := fun a => a = L, M := fun _ => False, F := fun a => s.heap.get? a = none, hid := fun _ => False, lk := fun _ => False }
 have hk : ∀ x, cx.env.kindOf x = lamScope.names.lookup x := fun x => by show env.scope.names.lookup x = _; rw [henv]; rfl
 have hfree : ∀ b o, b ≠ TF → s.heap.get? b = some o → cx.N .free b := fun b o ne e => ⟨ne, fun z => by
  rcases z with z | z | z
  ·exact nL b o e z
  ·exact z
  ·exact z⟩
 have St₁ : St w lamScope cx h' (rhoLam one two i) := by
  refine ⟨S, k₁.to, fun b z => z.elim, fun a e => e, by show env.scope = _; rw [henv]; rfl, by kernel_rfl, by show env.globals = _; rw [henv]; rfl, by show env.builtins = _; rw [henv]; rfl, by show env.locals = L; rw [henv]; rfl, fun x a _ e _ => ?_, ?_, ⟨⟨_, by show h'.Ns env.locals _; rw [henv]; exact hns, fun x e => ?_⟩, fun x e => ?_, fun x y a e e' => ?_⟩, (by show [Str.ofString "k", Str.ofString "one", Str.ofString "two"].Nodup; decide), fun x l m => ?_, fun x y sh sh' d1 d2 m => ?_, fun a z => z.elim, fun a z => z.elim, fun N z => (k₁.tk N z).here.weak fun a ne n => ⟨n.1, ?_⟩, fun z => ?_⟩
  ·rw [hk, lamNames] at e
   simp only [List.lookup_cons] at e
   split at e
   ·cases e
   ·split at e
    ·cases e
    ·split at e
     ·cases e
     ·cases e
  ·intro a ea
   have ea : a = L := ea
   rw [ea]
   refine bc fun gG => ?_
   obtain ⟨o, _, _, e, _⟩ := hns
   refine gG ?_; clear gG
   exact ⟨neT, ⟨o, e⟩, .inl L0⟩
  ·rw [hk, lamNames] at e
   show [(Str.ofString "k", Value.int i t)].reverse.lookup x = if x = Str.ofString "k" then _ else _
   simp only [List.lookup_cons] at e
   split at e
   ·rename_i hx
    have hx := eq_of_beq hx
    subst hx; rfl
   ·split at e
    ·cases e
    ·split at e
     ·cases e
     ·cases e
  ·rw [hk, lamNames] at e
   simp only [List.lookup_cons] at e
   have e' : x = Str.ofString "one" ∨ x = Str.ofString "two" := by
    split at e
    ·rcases e with e | e <;> cases e
    ·split at e
     ·rename_i hx; exact .inl (eq_of_beq hx)
     ·split at e
      ·rename_i hx; exact .inr (eq_of_beq hx)
      ·rcases e with e | e <;> cases e
   refine bc fun gG => ?_
   obtain ⟨o₁, h₁, d₁⟩ := i₁
   obtain ⟨o₂, h₂, d₂⟩ := i₂
   refine gG ?_; clear gG
   rcases e' with rfl | rfl
   ·exact ⟨c₁, by show env.cells.lookup _ = _; rw [henv]; rfl, ⟨n₁, fun z => z⟩, o₁, old _ _ h₁, d₁⟩
   ·exact ⟨c₂, by show env.cells.lookup _ = _; rw [henv]; rfl, ⟨n₂, fun z => z⟩, o₂, old _ _ h₂, d₂⟩
  ·have e : [(Str.ofString "two", c₂), (Str.ofString "one", c₁)].lookup x = some a := by have e1 : env.cells.lookup x = some a := e; rw [henv] at e1; exact e1
   have e' : [(Str.ofString "two", c₂), (Str.ofString "one", c₁)].lookup y = some a := by have e1 : env.cells.lookup y = some a := e'; rw [henv] at e1; exact e1
   have two' : ∀ z b, [(Str.ofString "two", c₂), (Str.ofString "one", c₁)].lookup z = some b → (z = Str.ofString "two" ∧ b = c₂) ∨ (z = Str.ofString "one" ∧ b = c₁) := fun z b e => by
    simp only [List.lookup_cons, List.lookup_nil] at e
    split at e
    ·rename_i hx; cases e; exact .inl ⟨eq_of_beq hx, rfl⟩
    ·split at e
     ·rename_i hx; cases e; exact .inr ⟨eq_of_beq hx, rfl⟩
     ·cases e
   rcases two' _ _ e with ⟨hx, ha⟩ | ⟨hx, ha⟩ <;> rcases two' _ _ e' with ⟨hy, hb⟩ | ⟨hy, hb⟩
   ·rw [hx, hy]
   ·exact absurd (hb.symm.trans ha) nc
   ·exact absurd (ha.symm.trans hb) nc
   ·rw [hx, hy]
  ·have af : ∀ {v d}, At s.heap anyN v d → At h' (cx.N .free) v d := fun a => a.here.map fun b o n e => ⟨old b o e, hfree b o n.1 e⟩
   unfold rhoLam at m
   simp only [List.mem_cons, List.not_mem_nil, or_false, Prod.mk.injEq] at m
   rcases m with ⟨rfl, rfl⟩ | ⟨rfl, rfl⟩ | ⟨rfl, rfl⟩
   ·exact ⟨_, rfl, .int _ _⟩
   ·exact ⟨_, rfl, af a₁⟩
   ·exact ⟨_, rfl, af a₂⟩
  ·unfold rhoLam at m
   simp only [List.mem_cons, List.not_mem_nil, or_false, Prod.mk.injEq] at m
   rcases m with ⟨_, m⟩ | ⟨_, m⟩ | ⟨_, m⟩ <;> cases m
  ·obtain ⟨_, o, e, ws, _, d, _⟩ := n
   rintro (q | q | q)
   ·have q : a = L := q
    subst q
    refine bc fun gG => ?_
    obtain ⟨o', es, ep, e', d', _⟩ := hns
    refine gG ?_; clear gG
    rw [e] at e'; cases e'; rw [d] at d'; cases d'
   ·exact q
   ·exact q
  ·exact absurd z (by decide +kernel)
 rw [← henv]
 exact h (A.deeper env) cx { s with heap := h', toks := s.toks + 1 } _ _ (Rm.deeper env) St₁ fun u s'' z a => q u s'' (.trans ⟨h', s.toks + 1, rfl, k₁⟩ z) (a.flatten hf)
end
theorem lamE_eq : lamE = .Lambda lamArgs lamBody lamScope lamPos := by kernel_rfl
theorem H1_347 (P : Params) : ∃ vs file tf flags tg inF text tt, (H1 P).get? 347 = some ⟨.type "code", none, .fields vs, #[]⟩ ∧ vs[11]? = some (.ref TF) ∧ vs.getD 11 .none = .ref TF ∧ vs.getD 18 .none = .str file tf ∧ vs.getD 7 .none = .int flags tg ∧ vs.getD 9 .none = .bool inF ∧ vs.getD 10 .none = .int text tt :=
 ⟨(match o347.data with | .fields vs => vs | _ => #[]), _, _, _, _, _, _, _, by kernel_rfl, rfl, rfl, rfl, rfl, rfl, rfl⟩
theorem H1_4 (P : Params) : ∃ o, (H1 P).nsMap mainGlobals "__builtins__" = some (.ref 4) ∧ (H1 P).get? 4 = some o ∧ o.cls = .type "module" ∧ o.dict = some builtinsNs ∧ o.data = .plain :=
 ⟨((H1 P).get? 4).getD ⟨.none, none, .plain, #[]⟩, by kernel_rfl, by kernel_rfl, by kernel_rfl, by kernel_rfl, by kernel_rfl⟩
section
variable {w : World} {k : Nat} {sc : Scope} {ρ : Rho} {one two : List D}
theorem At.lamTo {c : Cx} {h : Heap} {f : Addr} {o : Obj} {fd : FuncData} {a₁ a₂ cc : Addr} {v₁ v₂ : Value} (hT : ∀ a, a ∈ [f, a₁, a₂, cc] → a ≠ TF) (ho : h.get? f = some o) (hd : o.data = .func fd) (e1 : fd.params = lamArgs) (e2 : fd.body = .expr lamBody) (e3 : fd.scope = lamScope) (e4 : fd.qualname = lamQual) (e5 : fd.closure = [(Str.ofString "two", a₂), (Str.ofString "one", a₁)]) (nc : a₁ ≠ a₂) (e6 : fd.globals = mainGlobals) (e7 : fd.builtins = builtinsNs) (e8 : fd.defaults = .none) (e9 : fd.kwdefaults = .none) (e10 : fd.code = .ref cc)
  (hC : CodeOK h cc) (i₁ : h.IsCell a₁ (some v₁)) (i₂ : h.IsCell a₂ (some v₂)) (b₁ : At h anyN v₁ (.lst one)) (b₂ : At h anyN v₂ (.lst two)) : At h (c.N .any) (.ref f) (.lam one two) :=
 .lam (hT _ (.head _)) (hT _ (.tail _ (.head _))) (hT _ (.tail _ (.tail _ (.head _)))) (hT _ (.tail _ (.tail _ (.tail _ (.head _))))) ⟨o, fd, ho, hd, e1, e2, e3, e4, e5, nc, e6, e7, e8, e9, e10⟩ hC i₁ i₂ b₁ b₂
theorem ev_lam {f₁ f₂ : Bool} (hfr : isFr sc = true) (hk₁ : sc.names.lookup (Str.ofString "one") = some .cell) (hk₂ : sc.names.lookup (Str.ofString "two") = some .cell) (m₁ : (Str.ofString "one", .dat f₁ (.lst one)) ∈ ρ) (m₂ : (Str.ofString "two", .dat f₂ (.lst two)) ∈ ρ) : Ev w k sc ρ .any lamE (.lam one two) := fun A c s Q E R S q => by
 rw [lamE_eq]
 refine bc fun gG => ?_
 obtain ⟨v₁, l₁, b₁⟩ := S.vals _ _ m₁
 obtain ⟨v₂, l₂, b₂⟩ := S.vals _ _ m₂
 have hkd : ∀ n, c.env.kindOf n = sc.names.lookup n := fun n => by show c.env.scope.names.lookup n = _; rw [S.scp]
 obtain ⟨a₁, ea₁, n₁, i₁⟩ := S.vars.cel (Str.ofString "one") (.inl (by rw [hkd, hk₁]))
 obtain ⟨a₂, ea₂, n₂, i₂⟩ := S.vars.cel (Str.ofString "two") (.inl (by rw [hkd, hk₂]))
 have nc : a₁ ≠ a₂ := fun e => by have := S.vars.inj _ _ _ ea₁ (e ▸ ea₂); cases this
 rw [l₁] at i₁
 rw [l₂] at i₂
 have hcl : closureFor lamScope c.env = pure [(Str.ofString "two", a₂), (Str.ofString "one", a₁)] := by
  rw [closure_eq c.env lamScope fun x m => by
   rw [lamNames] at m
   simp only [List.mem_cons, List.not_mem_nil, or_false, Prod.mk.injEq] at m
   rcases m with ⟨_, m⟩ | ⟨rfl, _⟩ | ⟨rfl, _⟩
   ·cases m
   ·rw [ea₁]; rfl
   ·rw [ea₂]; rfl]
  rw [lamNames]
  simp [clo, ea₁, ea₂]
 obtain ⟨hcode, hqual⟩ := S.fr hfr
 have hg := says_ns S.base
 obtain ⟨vs, file, tf, flags, tg, inF, text, tt, g1, g2, g3, g4, g5, g6, g7⟩ := H1_347 w.params
 have C : CodeHd s.heap 347 TF := ⟨_, vs, file, tf, flags, tg, inF, text, tt, S.base.get _ _ (by decide) (fun z => z) g1, rfl, rfl, g2, g3, g4, g5, g6, g7, by decide⟩
 obtain ⟨ob, c1, c2, c3, c4, c5⟩ := H1_4 w.params
 have hb : s.heap.BuiltinsAt ((H1 w.params).nsMap mainGlobals) TF := ⟨4, ob, c1, by decide, by decide, by decide, S.base.get _ _ (by decide) (fun z => z) c2, c3, c4, c5⟩
 have hq : c.env.qual ++ Str.ofString "<lambda>" = lamQual := by rw [hqual]; kernel_rfl
 obtain ⟨ps, eT, hT, hfd⟩ := S.tabBar
 refine gG ?_; clear gG
 refine kla_eval (by kernel_rfl) ?_
 have old : ∀ {a o}, a ≠ TF → s.heap.get? a = some o → a ≠ TF := fun n _ => n
 cases hc : codeAmong lamPos ps.toList with
 | some cv =>
  refine bc fun gG => ?_
  obtain ⟨cc, rfl, nb, hcc⟩ := hfd cv hc
  refine gG ?_; clear gG
  refine kla_makeFunctionHit hcl S.glo hg hcode C eT hT hc hb fun ctv h' tk ko hs => ?_
  have ko' : ∀ (oo : Obj) b o, s.heap.get? b = some o → (h'.push oo).get? b = some o := fun oo b o e => Heap.get?_push_of_some _ (ko b o e)
  refine q _ _ ⟨_, tk, rfl, .of (ko' _)⟩ ?_
  have hT' : TF < h'.objs.size := Heap.lt_size (ko _ _ eT)
  have hcc' : CodeOK (h'.push { cls := .type "function", data := .func (kla_fn "<lambda>" (c.env.qual ++ Str.ofString "<lambda>") lamArgs lamBody lamScope [(Str.ofString "two", a₂), (Str.ofString "one", a₁)] (((H1 w.params).nsMap mainGlobals "__name__").getD .none) (.ref cc) ctv) }) cc := by
   refine bc fun gG => ?_
   obtain ⟨ne, o, e, r⟩ := hcc
   refine gG ?_; clear gG
   exact ⟨ne, o, ko' _ _ _ e, r⟩
  refine At.lamTo (cc := cc) (a₁ := a₁) (a₂ := a₂) (v₁ := v₁) (v₂ := v₂) (fun a m => ?_) (Heap.get?_push_size _ rfl) rfl rfl rfl rfl hq rfl nc rfl rfl rfl rfl rfl hcc' ?_ ?_ (b₁.map fun a o n e => ⟨ko' _ a o e, n.ne⟩) (b₂.map fun a o n e => ⟨ko' _ a o e, n.ne⟩)
  ·simp only [List.mem_cons, List.not_mem_nil, or_false] at m
   rcases m with rfl | rfl | rfl | rfl
   ·exact Nat.ne_of_gt hT'
   ·exact n₁.1
   ·exact n₂.1
   ·exact hcc.1
  ·obtain ⟨o, e, d⟩ := i₁; exact ⟨o, ko' _ _ _ e, d⟩
  ·obtain ⟨o, e, d⟩ := i₂; exact ⟨o, ko' _ _ _ e, d⟩
 | none =>
  refine kla_makeFunction hcl S.glo hg hcode C eT hT hc (by decide) hb fun c' ctv h' tk hx hge hlt hrec htb => ?_
  have ko' : ∀ (oo : Obj) b o, b ≠ TF → s.heap.get? b = some o → (h'.push oo).get? b = some o := fun oo b o ne e => Heap.get?_push_of_some _ (hx b o ne e)
  have hT' : TF < s.heap.objs.size := Heap.lt_size eT
  refine bc fun gG => ?_
  obtain ⟨c'', oc, ws, tq, ec, hoc, hw, hqq⟩ := hrec
  refine gG ?_; clear gG
  cases ec
  have hcc : ∀ oo, CodeOK (h'.push oo) c' := fun oo => ⟨Nat.ne_of_gt (Nat.lt_of_lt_of_le hT' hge), oc, Heap.get?_push_of_some _ hoc, ws, tq, hw, by rw [hqq, hq]⟩
  refine q _ _ ⟨_, tk, rfl, ⟨⟨fun b o ne _ e => ko' _ b o ne e, fun o vs e d => ?_⟩, fun N z => ?_⟩⟩ ?_
  ·rw [eT] at e; cases e; cases d
   exact ⟨_, Heap.get?_push_of_some _ htb⟩
  ·refine ⟨_, Heap.get?_push_of_some _ htb, by rw [Array.toList_append]; exact TriplesOk_snoc _ _ _ _ hT, fun cv e => ?_⟩
   rw [Array.toList_append, show (#[rawInt lamPos.line, rawInt lamPos.col, Value.ref c'] : Array Value).toList = [rawInt lamPos.line, rawInt lamPos.col, .ref c'] from rfl, codeAmong_snoc _ hT hc] at e
   cases e
   exact ⟨c', rfl, .inr (get_past _ hge), hcc _⟩
  refine At.lamTo (cc := c') (a₁ := a₁) (a₂ := a₂) (v₁ := v₁) (v₂ := v₂) (fun a m => ?_) (Heap.get?_push_size _ rfl) rfl rfl rfl rfl hq rfl nc rfl rfl rfl rfl rfl (hcc _) ?_ ?_ (b₁.map fun a o n e => ⟨ko' _ a o n.ne e, n.ne⟩) (b₂.map fun a o n e => ⟨ko' _ a o n.ne e, n.ne⟩)
  ·simp only [List.mem_cons, List.not_mem_nil, or_false] at m
   rcases m with rfl | rfl | rfl | rfl
   ·exact Nat.ne_of_gt (Nat.lt_of_lt_of_le hT' (Nat.le_trans hge (Nat.le_of_lt hlt)))
   ·exact n₁.1
   ·exact n₂.1
   ·exact (hcc { cls := .none, data := .plain }).1
  ·obtain ⟨o, e, d⟩ := i₁; exact ⟨o, ko' _ _ _ n₁.1 e, d⟩
  ·obtain ⟨o, e, d⟩ := i₂; exact ⟨o, ko' _ _ _ n₂.1 e, d⟩
end
section
variable {w : World} {k : Nat} {sc : Scope} {ρ : Rho} {md m₁ : Md} {d : D} {pos p₁ pk : Pos} {x : Str} {kv e : PySem.Expr} {dk : D}
theorem ev_callK {fa : Addr} {fd : FuncData} {body : List Stmt} {f : Str} {es : List PySem.Expr} {args : List D} {res : D} (hf : EvV w (k + 1) sc ρ (.Name f p₁) (.ref fa)) (F : FnAt w fa fd body) (h : EvL w (k + 1) sc ρ .any es args) (hk : Ev w (k + 1) sc ρ .any kv dk) (hF : FnOK w (k + 1) fa args [(x, dk)] res) (hne : es ≠ [] := by intro z; cases z) (hp : es.all plainE = true := by rfl) :
  Ev w (k + 1) sc ρ .fresh (.Call (.Name f p₁) es [⟨some x, kv, pk⟩] pos) res := fun A c s Q E Rm S q => by
 obtain ⟨o, ho, hd⟩ := F.obj
 refine wpAny_Call_Name_kw (hf A c s _ _ Rm S ?_)
 refine callWith_function_kw (o := o) (fd := fd) ?_
 cases es with
 | nil => exact absurd rfl hne
 | cons e₁ es =>
  simp only [List.all_cons, Bool.and_eq_true] at hp
  rw [starEach_plain hp.1]
  refine evalArgs_kw rfl ?_
  have key := h A pos c s (fun vs s' => wpAny (model pr w) A (evalAll ((backToKw pos (keywordEach [⟨some x, kv, pk⟩] c.env)).map (·.2))) (fun ks s₂ => (s₂.heap.get? fa = some o ∧ o.data = .func fd) ∧ wpAny (model pr w) A (call (.ref fa) ([] ++ vs) (([x] : List Str).zip ks)) Q E s₂) E s') E Rm S fun vs s₁ z₁ a₁ => by
   have S₁ := S.kps z₁
   show wpAny _ A (evalAll [do let v ← eval kv c.env; standAt pos; pure v]) _ E s₁
   refine wpAny_evalAll_cons (wpAny_bind (hk A c s₁ _ _ Rm S₁ fun u s₂ z₂ a₂ => wpAny_bind (wpAny_standAt (wpAny_pure (wpAny_evalAll_nil ?_)))))
   have S₂ := S₁.kps z₂
   refine ⟨⟨S₂.base.get _ _ F.ne (fun z => z) ho, hd⟩, ?_⟩
   refine hF A s₂ Q E vs [u] Rm S₂.base ((a₁.kps z₂).weak fun _ n => n) (.cons (a₂.weak fun _ n => n) .nil) fun v s₃ z₃ a₃ => ?_
   refine q v s₃ ((z₁.trans z₂).trans z₃) (a₃.map fun a o n e => ⟨e, ?_⟩)
   exact S₂.newN (md := .fresh) n.2 (by intro z; cases z)
  rw [starEach_plain hp.1] at key
  exact key
section
variable {ds : List D}
theorem ev_sliceF {lo hi : Option PySem.Expr} {vl vu : Option Int} {p₁ : Pos} (h : Ev w k sc ρ m₁ e (.lst ds)) (hl : EvO w k sc ρ lo vl) (hu : EvO w k sc ρ hi vu) (hz : ds.length ≤ sizeLine) (hm : ds.all D.flat = true) (hn : md ≠ .flat := by decide) :
  Ev w k sc ρ md (.Subscript e (.Slice lo hi none p₁) pos) (.lst (pick ds vl vu)) := fun A c s Q E R S q =>
 Subscript_ (h A c s _ _ R S fun v s₁ p₁ a₁ => wpAny_Slice (hl A c s₁ _ _ R (S.kps p₁) fun u₁ s₂ p₂ i₁ => hu A c s₂ _ _ R (S.kps (p₁.trans p₂)) fun u₂ s₃ p₃ i₂ => wpAny_pure (by
  have P := p₁.trans (p₂.trans p₃)
  have P' := P.trans (.push s₃ { cls := .type "slice", data := .fields #[u₁, u₂, .none] } s₃.toks)
  have a₃ := a₁.kps ((p₂.trans p₃).trans (.push s₃ { cls := .type "slice", data := .fields #[u₁, u₂, .none] } s₃.toks))
  have S₃ := S.kps P'
  refine a₃.cL fun _ vs n i r => ?_
  refine tail_any i.typeIs PySem.slot_list_getitem.lookup (wpAny_getItem_list_slice i (Heap.IsSliceOf.new _ _ _ _) i₁ i₂ .none (by intro z; cases z) ?_ (by rw [List.size_toArray, r.length]; exact hz)) rfl
  rw [kmk_pick_nat _ (kms_bounds vl vu vs.toArray.size)]
  refine q _ _ (P'.trans (.push _ _ _)) ?_
  have r' := ((((r.drop (kms_lo vl vs.length)).take (kms_hi vu vs.length - kms_lo vl vs.length)).kps (.push { s₃ with heap := s₃.heap.push { cls := .type "slice", data := .fields #[u₁, u₂, .none] } } { cls := .type "list", data := .seq ((vs.drop (kms_lo vl vs.length)).take (kms_hi vu vs.length - kms_lo vl vs.length)).toArray } s₃.toks)).flatten (N' := c.N md) (h' := (s₃.heap.push { cls := .type "slice", data := .fields #[u₁, u₂, .none] }).push { cls := .type "list", data := .seq ((vs.drop (kms_lo vl vs.length)).take (kms_hi vu vs.length - kms_lo vl vs.length)).toArray }) (by
   refine List.all_eq_true.mpr fun d m => List.all_eq_true.mp hm d (List.mem_of_mem_drop (List.mem_of_mem_take m))))
  refine .lst (S₃.newN (get_end _) hn) ⟨_, Heap.get?_push_size _ rfl, rfl, 0, rfl⟩ ?_
  unfold pick
  rw [← r.length]
  exact r')))
end
theorem ev_lamCall {fr : Bool} {f : Str} {one two : List D} {i : Int} {d : D} (hx : (f, .dat fr (.lam one two)) ∈ ρ) (h : Ev w (k + 1) sc ρ m₁ e (.int i)) (hb : Ev w k lamScope (rhoLam one two i) .flat lamBody d) (hv : isVar sc f = true := by kernel_rfl) (hf : d.flat = true := by rfl) (hp : plainE e = true := by rfl) :
  Ev w (k + 1) sc ρ .flat (.Call (.Name f p₁) [e] [] pos) d := fun A c s Q E Rm S q => by
 obtain ⟨v, l, a⟩ := S.vals f _ hx
 obtain ⟨h1, h2, h3⟩ := isVar.kind S hv
 refine wpAny_Call_Name_kw (look S h1 l ?_ h2 h3)
 obtain ⟨g, o, fd, rfl, ho, hd, hng⟩ : ∃ g o fd, v = .ref g ∧ s.heap.get? g = some o ∧ o.data = .func fd ∧ c.N (Md.of fr) g := by
  refine a.cF fun _ _ _ _ _ _ n n₁ n₂ n₃ hL hC i₁ i₂ a₁ a₂ => ?_
  obtain ⟨o, fd, ho, hd, _⟩ := hL; exact ⟨_, o, fd, rfl, ho, hd, n⟩
 refine callWith_function (o := o) (fd := fd) ?_
 rw [starEach_plain hp]
 refine evalArgs_plain ?_
 have H : EvL w (k + 1) sc ρ .flat [e] [.int i] := evl_cons (md := .flat) h evl_nil (by show Dom.up m₁ .flat (.int i) = true; unfold Dom.up; simp [D.flat]) hp
 have key := H A pos c s (fun vs s' => (s'.heap.get? g = some o ∧ o.data = .func fd) ∧ wpAny (model pr w) A (call (.ref g) ([] ++ vs) []) Q E s') E Rm S fun vs s₁ z₁ a₁ => by
  have S₁ := S.kps z₁
  obtain ⟨v', l', a'⟩ := S₁.vals f _ hx
  rw [l] at l'; cases l'
  refine ⟨⟨z₁.kp.get g o hng.ne (fun z => z) ho, hd⟩, ?_⟩
  cases a₁ with
  | cons b r =>
   cases r
   refine b.cI fun t => ?_
   exact lam_call Rm S₁.base (a'.weak fun _ n => n.ne) hf hb fun u s₂ z₂ a₂ => q u s₂ (z₁.trans z₂) (a₂.flatten hf)
 rw [starEach_plain hp] at key
 exact key
end
noncomputable def dInt (n : Nat) : D := .int n
noncomputable def differ (one two : List Nat) (i : Nat) : Bool := ((one.getD i 0 : Nat) : Int) != ((two.getD i 0 : Nat) : Int)
theorem lam_body (w : World) (k : Nat) {one two : List Nat} {i : Nat} (h1 : i < one.length) (h2 : i < two.length) (hi : i < 1000) : Ev w k lamScope (rhoLam (one.map dInt) (two.map dInt) i) .flat lamBody (.bool (differ one two i)) := by
 conv in lamBody => whnf
 refine ev_cmp (ev_sub (ev_dat m1) (ev_dat m0) (sub_list (d := .int (one.getD i 0 : Nat)) (by lia) (by lia) (by rw [Int.toNat_natCast]; exact getD_map (a := (0 : Nat)) dInt h1))) (ev_sub (ev_dat m2) (ev_dat m0) (sub_list (d := .int (two.getD i 0 : Nat)) (by lia) (by lia) (by rw [Int.toNat_natCast]; exact getD_map (a := (0 : Nat)) dInt h2))) cmp_neI
noncomputable def sameAt (one two : List Nat) (i : Nat) : Bool := !differ one two i && true
theorem bleftK_ok (w : World) (k : Nat) {one two : List Nat} {n : Nat} (h1 : n ≤ one.length) (h2 : n ≤ two.length) (hn : n ≤ 1000) :
  FnOK w (k + 2) 65 [.lst ((List.range n).map dInt), .bool true] [(sz "key", .lam (one.map dInt) (two.map dInt))] (.int (bsOf (sameAt one two) n)) := by
 let p := sameAt one two
 refine fn_ok (F_bleft w) (hids := [sz "mid"]) (B_bleftK w _ _ _) rfl (by decide +kernel) (by kernel_rfl) ?_
 show Ex w (k + 1) (sc (st 4)) [(sz "a", .dat false (.lst ((List.range n).map dInt))), (sz "x", .dat false (.bool true)), (sz "lo", .dat false (.int 0)), (sz "hi", .dat false .none), (sz "key", .dat false (.lam (one.map dInt) (two.map dInt))), (sz "mid", .hid)] (bo (st 4)) _ _
 conv in bo (st 4) => whnf
 let ρo : LV → Nat → Nat → Rho := fun mid lo hi => rhoB (.dat false (.lst ((List.range n).map dInt))) (.dat false (.bool true)) (.dat false (.lam (one.map dInt) (two.map dInt))) mid lo hi
 refine ex_cons (es_if (K := fun r => r = _) (ts_cmp (ev_dat m2) ev_int cmp_ltI) (fun h => by simp at h) (fun _ => ex_nil rfl)) fun _ e => e ▸ ?_
 refine ex_cons (es_if (K := fun r => r = ρo .hid 0 n) (ts_cmp (ev_dat m3) ev_none cmp_isN) (fun h => ?_) (fun h => by cases h)) fun _ e => e ▸ ?_
 ·refine ex_seq (es_assign (fr := false) (ev_b1 evv_builtin (ev_dat m0) (bi_lenL (by rw [List.length_map, List.length_range]; lia))) u3) (ex_nil ?_)
  rw [List.length_map, List.length_range]; rfl
 refine ex_cons (es_if (K := fun r => ∃ hi, r = ρo .hid (bsOf p n) hi) (ts_cmp (ev_dat m4) ev_none (cmp_is_no rfl)) (fun h => by cases h) (fun h => ?_)) fun _ ⟨hi, e⟩ => e ▸ ?_
 ·refine ex_cons (es_while (K := fun r => ∃ hi, r = ρo .hid (bsOf p n) hi) (σ := Nat × Nat) (fun z => ρo .hid z.1 z.2)
   (fun z => z.2 ≤ n ∧ bs p (z.2 - z.1) z.1 z.2 = bsOf p n) (fun z => decide ((z.1 : Int) < (z.2 : Int))) (half p) (fun z => z.2 - z.1) (0, n) rfl ⟨by simp, by simp [bsOf]⟩ ?_ ?_ ?_ ?_) fun _ e => ex_nil e
  ·rintro ⟨lo, hi⟩ ⟨h1, h2⟩
   exact ts_cmp (ev_dat m2) (ev_dat m3) cmp_ltI
  ·rintro ⟨lo, hi⟩ ⟨g1, g2⟩ hb
   dsimp only at g1 g2
   have hlt : lo < hi := by simp only [decide_eq_true_eq] at hb; lia
   have hm : (lo + hi) / 2 < n := by lia
   refine ex_seq (es_assign (fr := false) (ev_bin (ev_bin (ev_dat m2) (ev_dat m3) bin_add) ev_int (bin_fdiv (by decide) (by decide))) u5) ?_
   rw [half_int]
   have hc : ∀ {q1 q2 q3 q4 q5 : Pos}, Ev w (k + 1) (sc (st 4)) (ρo (.dat false (.int ((lo + hi) / 2 : Nat))) lo hi) .flat (.Call (.Name (sz "key") q1) [.Subscript (.Name (sz "a") q2) (.Name (sz "mid") q3) q4] [] q5) (.bool (differ one two ((lo + hi) / 2))) := fun {_ _ _ _ _} =>
    ev_lamCall m4 (ev_sub (ev_dat m0) (ev_dat m5) (sub_list (d := .int ((lo + hi) / 2 : Nat)) (by lia) (by lia) (by rw [Int.toNat_natCast, List.getElem?_map, List.getElem?_range hm]; rfl))) (lam_body w k (by lia) (by lia) (by lia))
   refine ex_cons (es_if (K := fun r => r = ρo (.dat false (.int ((lo + hi) / 2 : Nat))) (half p (lo, hi)).1 (half p (lo, hi)).2) (ts_cmp hc (ev_dat m1) cmp_ltB) (fun h => ?_) (fun h => ?_)) fun _ e => e ▸ Ex.weak (ρ' := ρo .hid (half p (lo, hi)).1 (half p (lo, hi)).2) (ex_nil rfl) (.keep (.keep (.keep (.keep (.keep (.hide .nil))))))
   ·refine ex_seq (es_assign (fr := false) (ev_bin (ev_dat m5) ev_int bin_add) u2) (ex_nil ?_)
    have e : half p (lo, hi) = ((lo + hi) / 2 + 1, hi) := by unfold half; exact if_pos h
    rw [e]; rfl
   ·refine ex_seq (es_assign (fr := false) (ev_dat m5) u3) (ex_nil ?_)
    have e : half p (lo, hi) = (lo, (lo + hi) / 2) := by unfold half; exact if_neg (by rw [show p ((lo + hi) / 2) = false from h]; decide)
    rw [e]; rfl
  ·rintro ⟨lo, hi⟩ ⟨g1, g2⟩ hb
   dsimp only at g1 g2
   have hlt : lo < hi := by simp only [decide_eq_true_eq] at hb; lia
   refine ⟨⟨?_, (bs_step hlt).symm.trans g2⟩, ?_⟩
   ·unfold half; split <;> dsimp only <;> lia
   ·unfold half; split <;> dsimp only <;> lia
  ·rintro ⟨lo, hi⟩ ⟨g1, g2⟩ hb
   dsimp only at g1 g2
   have hlt : ¬ lo < hi := by simp only [decide_eq_false_iff_not] at hb; lia
   refine ⟨hi, ?_⟩
   rw [← g2, show hi - lo = 0 by lia]; rfl
 ·exact ex_return (ev_dat m2) rfl
noncomputable def frontF (one two : List Nat) : List Nat := one.take (bsOf (sameAt one two) (min one.length two.length))
theorem front_ok (w : World) (k : Nat) (one two : List Nat) (h1 : one.length ≤ 1000) (h2 : two.length ≤ 1000) : FnOK w (k + 3) 348 [dNats one, dNats two] [] (dNats (frontF one two)) := by
 refine fn_ok (F_front w) (hids := [sz "numbers"]) (B_front w _ _) rfl (by decide +kernel) (by kernel_rfl) ?_
 show Ex w (k + 2) (sc (st 78)) [(sz "one", .dat false (.lst (one.map dInt))), (sz "two", .dat false (.lst (two.map dInt))), (sz "numbers", .hid)] (bo (st 78)) _ _
 have hL : (bo (st 78)).getD 1 noStmt = (bo (st 78)).getD 1 noStmt := rfl
 have hlam : Ev w (k + 2) (sc (st 78)) [(sz "one", .dat false (.lst (one.map dInt))), (sz "two", .dat false (.lst (two.map dInt))), (sz "numbers", .dat true (.lst ((List.range (min one.length two.length)).map dInt)))] .any lamE (.lam (one.map dInt) (two.map dInt)) :=
  ev_lam (by kernel_rfl) (by kernel_rfl) (by kernel_rfl) m0 m1
 conv at hlam in lamE => whnf
 conv in bo (st 78) => whnf
 have hmin : min ((one.map dInt).length : Int) ((two.map dInt).length : Int) = ((min one.length two.length : Nat) : Int) := by simp only [List.length_map]; lia
 have hfm : (List.range (min one.length two.length)).filterMap (fun i => some (dInt i)) = (List.range (min one.length two.length)).map dInt := by rw [← List.filterMap_eq_map]; rfl
 refine ex_seq (es_comp (hrs := hfm) (fr := true) (m₁ := .flat) (l := List.range (min one.length two.length)) (g := dInt) (out := fun i => some (dInt i)) [] [sz "k"] ?_ (fun p m => by cases m) (by kernel_rfl) (fun i hi => ?_) (by rw [List.length_range]; show _ ≤ 16777216; lia) u2 (by kernel_rfl)) ?_
 ·have hl : ∀ {ρ : Rho} {q1 q2 q3 q4 q5 q6 q7 q8 : Pos}, (sz "one", .dat false (.lst (one.map dInt))) ∈ ρ → (sz "two", .dat false (.lst (two.map dInt))) ∈ ρ → Ev w (k + 2) (sc (st 78)) ρ .flat (.Call (.Name (sz "min") q1) [.Call (.Name (sz "len") q2) [.Name (sz "one") q3] [] q4, .Call (.Name (sz "len") q5) [.Name (sz "two") q6] [] q7] [] q8) (.int ((min one.length two.length : Nat) : Int)) := fun {_ _ _ _ _ _ _ _ _} n1 n2 =>
   hmin ▸ ev_b2 evv_builtin (ev_b1 evv_builtin (ev_dat n1) (bi_lenL (by rw [List.length_map]; lia))) (ev_b1 evv_builtin (ev_dat n2) (bi_lenL (by rw [List.length_map]; lia))) bi_min
  exact it_range (n := ((min one.length two.length : Nat) : Int)) evv_builtin (hl m0 m1) (by lia) (by lia)
 ·refine ⟨_, bd_name (fr := false) u0, .hide .nil, ifs_nil, (ev_dat m0).up⟩
 refine ex_return (ev_sliceF (md := .fresh) (ev_dat m0) evo_none (evo_some (ev_callK evv_glob (F_bleft w) (evl_cons (ev_dat m2) (evl_cons ev_bool evl_nil)) hlam (bleftK_ok w k (Nat.min_le_left _ _) (Nat.min_le_right _ _) (by lia)))) ?_ ?_) ?_
 ·rw [List.length_map]; show _ ≤ 16777216; lia
 ·simp [dInt, D.flat]
 ·unfold pick frontF dNats
  generalize bsOf (sameAt one two) (min one.length two.length) = b
  have e1 : kms_hi (some ((b : Nat) : Int)) (one.map dInt).length = min b (one.map dInt).length := by
   unfold kms_hi
   dsimp only
   rw [if_neg (by lia), Int.toNat_natCast]
  rw [e1, show kms_lo none (one.map dInt).length = 0 from rfl, Nat.sub_zero, List.drop_zero, ← List.take_eq_take_min, List.map_take]
  rfl
section
variable {w : World} {k : Nat} {sc : Scope} {ρ ρ' : Rho} {md m₁ : Md} {c : Cx} {h h' : Heap} {pos p₁ : Pos} {x : Str}
theorem es_assignV {fr : Bool} {d : D} {e : PySem.Expr} {R : D → Prop} (h : Ev w k sc ρ md e d) (u : Upd ρ x (.dat fr d) ρ') (hs : ∀ env : Env, swapsWith e (some (.Name x p₁)) pos.line { env with scope := sc } = pure false := by intro _; kernel_rfl) (hx : isStore sc x = true := by kernel_rfl) (hm : up md (Md.of fr) d = true := by rfl) : Es w k sc ρ (.Assign [.Name x p₁] e pos) (fun r => r = ρ') R := fun A c s Q E Rm S q r =>
 wpAny_Assign_Name (h A c s _ _ Rm S fun v s₁ z₁ a₁ => store (S.kps z₁) hx fun h' tk z => q _ _ ρ' ((Ext.kps z₁).trans (z.ext (S.kps z₁) tk))
  (z.st (S.kps z₁) u (by rintro fr' d' e'; cases e'; exact a₁.up hm) (by rintro sh ds e'; cases e') (by rintro _ _ e'; cases e') (by rintro sh ds e'; cases e')) rfl) (env_sc S.scp ▸ hs c.env)
end
theorem contains_cast (l : List Nat) (b : Nat) : (l.map fun n : Nat => (n : Int)).contains (b : Int) = l.contains b := by
 rw [Bool.eq_iff_iff, List.contains_iff_mem, List.contains_iff_mem, List.mem_map]
 constructor
 ·rintro ⟨a, m, e⟩; have : a = b := by lia
  exact this ▸ m
 ·intro m; exact ⟨b, m, rfl⟩
theorem map_cast (l : List Nat) : l.map dInt = (l.map fun n : Nat => (n : Int)).map D.int := by rw [List.map_map]; rfl
section
variable {w : World} {k : Nat} {sc : Scope} {ρ : Rho} {m₁ m₂ : Md}
theorem cmp_inN {l : List Nat} {b : Nat} : Cmp w k sc ρ .In m₁ (.int b) m₂ (.lst (l.map dInt)) (l.contains b) := by
 rw [map_cast, ← contains_cast]; exact cmp_inI
theorem cmp_notInN {l : List Nat} {b : Nat} : Cmp w k sc ρ .NotIn m₁ (.int b) m₂ (.lst (l.map dInt)) (!l.contains b) := by
 rw [map_cast, ← contains_cast]; exact cmp_notInI
end
noncomputable def stepR (w : Int) (c : Nat) (got : List Nat) (p : Nat × Nat) : List Nat := if ((p.1 : Int) == (c : Int)) && (((p.2 : Int) != w) && (!got.contains p.2 && (BoolOp.And == BoolOp.And))) then got ++ [p.2] else got
noncomputable def rowR (ways : List (Nat × Nat)) (w : Int) (c : Nat) (got : List Nat) : List Nat := ways.foldl (stepR w c) got
noncomputable def goR (ways : List (Nat × Nat)) (w : Int) : Nat → List Nat → Nat → List Nat
 | 0, got, _ => got
 | f + 1, got, k => if k < got.length then goR ways w f (rowR ways w (got.getD k 0) got) (k + 1) else got
noncomputable def reachF (ways : List (Nat × Nat)) (b : Nat) (w : Int) : List Nat := if (b : Int) == w then [] else goR ways w 7 [b] 0
theorem nodup_len : ∀ (n : Nat) (l : List Nat), l.Nodup → (∀ x ∈ l, x < n) → l.length ≤ n
 | 0, l, _, h => by cases l with
  | nil => simp
  | cons a l => exact absurd (h a (.head _)) (by lia)
 | n + 1, l, nd, h => by
  have := nodup_len n (l.erase n) (nd.erase n) fun x m => by
   have h1 := h x (List.mem_of_mem_erase m)
   have h2 : x ≠ n := fun e => by subst e; exact (List.Nodup.not_mem_erase nd) m
   lia
  rw [List.length_erase] at this
  split at this <;> lia
structure GotOK (got : List Nat) : Prop where
 nd : got.Nodup
 lt : ∀ x ∈ got, x < 6
theorem GotOK.len {got : List Nat} (h : GotOK got) : got.length ≤ 6 := nodup_len 6 got h.nd h.lt
theorem GotOK.step {got : List Nat} (h : GotOK got) (w : Int) (c : Nat) (p : Nat × Nat) (hp : p.2 < 6) : GotOK (stepR w c got p) ∧ ∃ t, stepR w c got p = got ++ t := by
 unfold stepR
 split
 ·rename_i q
  simp only [Bool.and_eq_true, Bool.not_eq_true'] at q
  have nm : p.2 ∉ got := fun m => by rw [List.contains_iff_mem.mpr m] at q; exact absurd q.2.2.1 (by decide)
  refine ⟨⟨?_, ?_⟩, _, rfl⟩
  ·rw [List.nodup_append]
   refine ⟨h.nd, by simp, ?_⟩
   rintro a m b mb rfl
   simp only [List.mem_singleton] at mb
   exact nm (mb ▸ m)
  ·intro x m
   rcases List.mem_append.mp m with m | m
   ·exact h.lt x m
   ·simp only [List.mem_singleton] at m; exact m ▸ hp
 ·exact ⟨h, [], by simp⟩
theorem GotOK.row {got : List Nat} (h : GotOK got) (w : Int) (c : Nat) : ∀ (ways : List (Nat × Nat)), (∀ p ∈ ways, p.2 < 6) → GotOK (rowR ways w c got) ∧ ∃ t, rowR ways w c got = got ++ t := by
 intro ways
 unfold rowR
 induction ways generalizing got with
 | nil => intro _; exact ⟨h, [], by simp⟩
 | cons p ways ih =>
  intro hp
  obtain ⟨h1, t, e⟩ := h.step w c p (hp p (.head _))
  obtain ⟨h2, t', e'⟩ := ih h1 fun q m => hp q (.tail _ m)
  rw [List.foldl_cons]
  exact ⟨h2, t ++ t', by rw [e', e, List.append_assoc]⟩
noncomputable def rhoR (ways : List (Nat × Nat)) (b : Nat) (wo : Int) (got : List Nat) (k : Nat) (la lb : LV) : Rho := [(sz "ways", .dat false (dWays ways)), (sz "begin", .dat false (.int b)), (sz "without", .dat false (.int wo)), (sz "got", .own false (got.map dInt)), (sz "k", .dat false (.int k)), (sz "a", la), (sz "b", lb)]
theorem reached_ok (w : World) (k : Nat) (ways : List (Nat × Nat)) (b : Nat) (wo : Int) (hw : ∀ p ∈ ways, p.1 < 6 ∧ p.2 < 6) (hb : b < 6) (hl : ways.length ≤ 1000) : FnOK w (k + 1) 360 [dWays ways, .int b, .int wo] [] (.lst ((reachF ways b wo).map dInt)) := by
 refine fn_ok (F_reached w) (hids := [sz "got", sz "k", sz "a", sz "b"]) (B_reached w _ _ _) rfl (by decide +kernel) (by kernel_rfl) ?_
 show Ex w k (sc (st 80)) [(sz "ways", .dat false (dWays ways)), (sz "begin", .dat false (.int b)), (sz "without", .dat false (.int wo)), (sz "got", .hid), (sz "k", .hid), (sz "a", .hid), (sz "b", .hid)] (bo (st 80)) _ _
 conv in bo (st 80) => whnf
 unfold reachF
 refine ex_cons (es_if (K := fun r => ((b : Int) == wo) = false ∧ r = _) (ts_cmp (ev_dat m1) (ev_dat m2) cmp_eqI) (fun h => ?_) (fun h => ex_nil ⟨h, rfl⟩)) fun _ ⟨h, e⟩ => e ▸ ?_
 ·rw [if_pos h]
  exact ex_return (ev_list (md := .fresh) evl_nil) rfl
 rw [if_neg (by rw [h]; decide)]
 refine ex_seq (es_new (ds := [dInt b]) (md := .flat) (evl_cons (ev_dat m1) evl_nil) u3) ?_
 refine ex_seq (es_assign (fr := false) (d := .int (0 : Nat)) ev_int u4) ?_
 refine ex_cons (es_while (K := fun r => ∃ k, r = rhoR ways b wo (goR ways wo 7 [b] 0) k .hid .hid) (σ := List Nat × Nat) (fun z => rhoR ways b wo z.1 z.2 .hid .hid) (fun z => GotOK z.1 ∧ z.2 ≤ z.1.length ∧ ∃ f, 7 ≤ z.2 + f ∧ goR ways wo f z.1 z.2 = goR ways wo 7 [b] 0)
  (fun z => decide ((z.2 : Int) < ((z.1.map dInt).length : Int))) (fun z => (rowR ways wo (z.1.getD z.2 0) z.1, z.2 + 1)) (fun z => 7 - z.2) ([b], 0) rfl ⟨⟨by simp, by simpa using hb⟩, by simp, 7, by lia, rfl⟩ ?_ ?_ ?_ ?_) fun _ ⟨kk, e⟩ => e ▸ ?_
 ·rintro ⟨got, j⟩ ⟨h1, h2, f, h3, h4⟩
  exact ts_cmp (ev_dat m4) (ev_b1 evv_builtin (ev_own m3) (bi_lenL (by have := h1.len; rw [List.length_map]; lia))) cmp_ltI
 ·rintro ⟨got, j⟩ ⟨h1, h2, f, h3, h4⟩ hb
  have hj : j < got.length := by rw [List.length_map] at hb; simp only [decide_eq_true_eq] at hb; lia
  have hlen := h1.len
  let gotAt : Nat → List Nat := fun i => rowR (ways.take i) wo (got.getD j 0) got
  have hG : ∀ i, GotOK (gotAt i) ∧ ∃ t, gotAt i = got ++ t := fun i => h1.row wo _ _ fun p m => (hw p (List.mem_of_mem_take m)).2
  refine ex_cons (es_for (K := fun r => r = rhoR ways b wo (rowR ways wo (got.getD j 0) got) j .hid .hid) (fun i => rhoR ways b wo (gotAt i) j .hid .hid) (it_list (ev_dat m0)) (by show Weak (rhoR ways b wo got j .hid .hid) (rhoR ways b wo got j .hid .hid); exact .refl _) (fun i d hd => ?_) ?_) fun _ e => e ▸ ?_
  ·rw [List.getElem?_map] at hd
   obtain ⟨p, hp, rfl⟩ := Option.map_eq_some_iff.mp hd
   have hi : gotAt (i + 1) = stepR wo (got.getD j 0) (gotAt i) p := by
    show rowR (ways.take (i + 1)) _ _ _ = _
    unfold rowR
    rw [List.take_add_one, hp, Option.toList_some, List.foldl_append]; rfl
   obtain ⟨g1, t, g2⟩ := hG i
   have hsub : ((gotAt i).map dInt)[((j : Nat) : Int).toNat]? = some (.int (got.getD j 0 : Nat)) := by
    rw [Int.toNat_natCast, g2, List.map_append, List.getElem?_append_left (by simpa using hj)]
    exact getD_map (a := (0 : Nat)) dInt hj
   refine ⟨_, bd_pair (f₁ := false) (f₂ := false) (d₁ := .int p.1) (d₂ := .int p.2) u5 u6, ?_⟩
   refine ex_cons (es_if (K := fun r => Weak r _) (ts_boolop (allT_and (ts_cmp (ev_dat m5) (ev_sub (ev_own m3) (ev_dat m4) (sub_list (by lia) (by lia) hsub)) cmp_eqI) fun _ => allT_and (ts_cmp (ev_dat m6) (ev_dat m2) cmp_neI) fun _ => allT_and (ts_cmp (ev_dat m6) (ev_own m3) cmp_notInN) fun _ => allT_nil)) (fun h => ?_) (fun h => ex_nil ?_)) fun _ e => ex_nil e
   ·refine ex_seq (es_append (ev_dat m6) m3 u3 (by have := g1.len; rw [List.length_map]; show _ ≤ 16777216; lia)) (ex_nil ?_)
    rw [hi]; unfold stepR; rw [if_pos h]
    unfold rhoR
    rw [List.map_append]
    exact .keep (.keep (.keep (.keep (.keep (.hide (.hide .nil))))))
   ·rw [hi]; unfold stepR; rw [if_neg (by rw [h]; decide)]
    exact .keep (.keep (.keep (.keep (.keep (.hide (.hide .nil))))))
  ·show rhoR ways b wo (rowR (ways.take (ways.map dPair).length) wo (got.getD j 0) got) j .hid .hid = _
   rw [List.length_map, List.take_length]
  ·refine ex_seq (es_assign (fr := false) (ev_bin (ev_dat m4) ev_int bin_add) u4) (ex_nil ?_)
   rfl
 ·rintro ⟨got, j⟩ ⟨h1, h2, f, h3, h4⟩ hb
  have hj : j < got.length := by rw [List.length_map] at hb; simp only [decide_eq_true_eq] at hb; lia
  have hlen : got.length ≤ 6 := h1.len
  obtain ⟨g1, t, g2⟩ := h1.row wo (got.getD j 0) ways fun p m => (hw p m).2
  dsimp only at h3 h4 h2
  refine ⟨⟨g1, ?_, ?_⟩, by show 7 - (j + 1) < 7 - j; lia⟩
  ·show j + 1 ≤ (rowR ways wo (got.getD j 0) got).length
   rw [g2, List.length_append]; dsimp only; lia
  ·obtain ⟨f', rfl⟩ : ∃ t, f = t + 1 := ⟨f - 1, by lia⟩
   refine ⟨f', by show 7 ≤ j + 1 + f'; lia, ?_⟩
   rw [goR, if_pos hj] at h4
   exact h4
 ·rintro ⟨got, j⟩ ⟨h1, h2, f, h3, h4⟩ hb
  have hj : ¬ j < got.length := by rw [List.length_map] at hb; simp only [decide_eq_false_iff_not] at hb; lia
  refine ⟨j, ?_⟩
  dsimp only at h4
  have : goR ways wo f got j = got := by
   cases f with
   | zero => rfl
   | succ f => rw [goR, if_neg hj]
  rw [this] at h4
  rw [← h4]
 ·exact ex_return_own m3 rfl
noncomputable def dStrs (l : List Str) : D := .lst (l.map .str)
noncomputable def dRows (l : List (List Str)) : D := .lst (l.map dStrs)
noncomputable def dNs (l : List Nat) : D := .lst (l.map dInt)
noncomputable def domOf (names : List Str) (ways : List (Nat × Nat)) (b v : Nat) : List Str := (List.range names.length).filterMap fun d : Nat => if !(reachF ways b (d : Int)).contains v then some (names.getD d ⟨#[]⟩) else none
noncomputable def dueAt (names : List Str) (ways : List (Nat × Nat)) (b v : Nat) : List Str := if (reachF ways b (-1)).contains v then sortS (domOf names ways b v) else []
noncomputable def dueF (names : List Str) (ways : List (Nat × Nat)) (b : Nat) : List (List Str) := (List.range names.length).map (dueAt names ways b)
theorem domOf_len (names : List Str) (ways : List (Nat × Nat)) (b v : Nat) : (domOf names ways b v).length ≤ names.length := by
 unfold domOf
 exact Nat.le_trans (List.length_filterMap_le _ _) (by rw [List.length_range]; exact Nat.le_refl _)
noncomputable def rhoD (names : List Str) (ways : List (Nat × Nat)) (b : Nat) (full missed due v : LV) : Rho := [(sz "names", .dat false (dStrs names)), (sz "ways", .dat false (dWays ways)), (sz "begin", .dat false (.int b)), (sz "full", full), (sz "missed", missed), (sz "due", due), (sz "v", v)]
theorem due_ok (w : World) (k : Nat) (names : List Str) (ways : List (Nat × Nat)) (b : Nat) (hw : ∀ p ∈ ways, p.1 < 6 ∧ p.2 < 6) (hb : b < 6) (hl : ways.length ≤ 1000) (hn : names.length ≤ 6) : FnOK w (k + 2) 365 [dStrs names, dWays ways, .int b] [] (dRows (dueF names ways b)) := by
 refine fn_ok (F_due w) (hids := [sz "full", sz "missed", sz "due", sz "v"]) (B_due w _ _ _) rfl (by decide +kernel) (by kernel_rfl) ?_
 show Ex w (k + 1) (sc (st 81)) (rhoD names ways b .hid .hid .hid .hid) (bo (st 81)) _ _
 conv in bo (st 81) => whnf
 have reach : ∀ {sc' : Scope} {ρ : Rho} {x1 x2 : Str} {e3 : PySem.Expr} {m : Md} {wo : Int} {q1 q2 q3 q4 : Pos}, Ev w (k + 1) sc' ρ .any (.Name x1 q2) (dWays ways) → Ev w (k + 1) sc' ρ .any (.Name x2 q3) (.int b) → Ev w (k + 1) sc' ρ .any e3 (.int wo) → isGlob sc' (sz "_law_reached") = true → plainE e3 = true → Ev w (k + 1) sc' ρ .fresh (.Call (.Name (sz "_law_reached") q1) [.Name x1 q2, .Name x2 q3, e3] [] q4) (dNs (reachF ways b wo)) := fun h1 h2 h3 hg hp =>
  ev_call (evv_glob hg) (F_reached w) (evl_cons h1 (evl_cons h2 (evl_cons h3 evl_nil rfl hp))) (reached_ok w k ways b _ hw hb hl) (by intro z; cases z) (by show (plainE _ && (plainE _ && (plainE _ && true))) = true; rw [hp]; rfl)
 refine ex_seq (es_assign (fr := true) (reach (m := .any) (ev_dat m1).up (ev_dat m2).up (ev_neg ev_int).up (by kernel_rfl) rfl) u3) ?_
 have rng : ∀ {ρ : Rho} {q1 q2 q3 q4 q5 : Pos} {fz : Bool}, (sz "names", .dat false (dStrs names)) ∈ ρ → ItOK w (k + 1) (sc (st 81)) ρ fz .flat (.Call (.Name (sz "range") q1) [.Call (.Name (sz "len") q2) [.Name (sz "names") q3] [] q4] [] q5) ((List.range names.length).map dInt) := fun {_ _ _ _ _ _ _} n1 => by
  have e : (((names.map D.str).length : Nat) : Int) = ((names.length : Nat) : Int) := by rw [List.length_map]
  exact it_range (n := ((names.length : Nat) : Int)) evv_builtin (e ▸ ev_b1 evv_builtin (ev_dat n1) (bi_lenL (by rw [List.length_map]; lia))) (by lia) (by lia)
 refine ex_seq (es_assignV (fr := true) (ev_comp (md := .fresh) (m₁ := .flat) (l := List.range names.length) (g := dInt) (out := fun d : Nat => some (dNs (reachF ways b (d : Int)))) [(sz "begin", .dat false (.int b)), (sz "ways", .dat false (dWays ways))] [sz "d"] (rng m0) ?_ (by kernel_rfl) (fun i hi => ?_) ?_) u4) ?_
 ·intro p m
  simp only [List.mem_cons, List.not_mem_nil, or_false] at m
  rcases m with rfl | rfl
  ·exact m2
  ·exact m1
 ·exact ⟨_, bd_name (fr := false) u2, .keep (.keep (.hide .nil)), ifs_nil, reach (m := .any) (ev_dat m1).up (ev_dat m0).up (ev_dat m2).up (by kernel_rfl) rfl⟩
 ·rw [List.length_range]; show _ ≤ 16777216; lia
 have hfm : (List.range names.length).filterMap (fun d : Nat => some (dNs (reachF ways b (d : Int)))) = (List.range names.length).map (fun d : Nat => dNs (reachF ways b (d : Int))) := by rw [← List.filterMap_eq_map]; rfl
 rw [hfm]
 obtain ⟨M, hM⟩ : ∃ M, M = (List.range names.length).map (fun d : Nat => dNs (reachF ways b (d : Int))) := ⟨_, rfl⟩
 rw [← hM]
 let ρo : Nat → LV → Rho := fun i v => rhoD names ways b (.dat true (dNs (reachF ways b (-1)))) (.dat true (.lst M)) (.own false (((List.range names.length).take i).map fun v => dStrs (dueAt names ways b v))) v
 refine ex_seq (es_new (ds := []) (md := .fresh) evl_nil u5) ?_
 refine ex_cons (es_for (K := fun r => r = ρo names.length .hid) (fun i => ρo i .hid) (rng m0) (by show Weak (ρo 0 .hid) (ρo 0 .hid); exact .refl _) (fun i d hd => ?_) ?_) fun _ e => e ▸ ?_
 ·have hi : i < names.length := by have := (List.getElem?_eq_some_iff.mp hd).1; simpa using this
  rw [List.getElem?_map, List.getElem?_range hi] at hd
  cases hd
  have ht : ((List.range names.length).take (i + 1)).map (fun v => dStrs (dueAt names ways b v)) = ((List.range names.length).take i).map (fun v => dStrs (dueAt names ways b v)) ++ [dStrs (dueAt names ways b i)] := by
   rw [List.take_add_one, List.getElem?_range hi, Option.toList_some, List.map_append]; rfl
  have hz : (((List.range names.length).take i).map fun v => dStrs (dueAt names ways b v)).length ≤ sizeLine := by
   rw [List.length_map, List.length_take, List.length_range]; show _ ≤ 16777216; lia
  refine ⟨_, bd_name (fr := false) u6, ?_⟩
  refine ex_cons (es_if (K := fun r => Weak r _) (ts_cmp (ev_dat m6) (ev_dat m3) cmp_inN) (fun h => ?_) (fun h => ?_)) fun _ e => ex_nil e
  ·have hdue : dueAt names ways b i = sortS (domOf names ways b i) := by unfold dueAt; rw [if_pos h]
   have hS : ((List.range names.length).filterMap fun d : Nat => if !(reachF ways b (d : Int)).contains i then some (D.str (names.getD d ⟨#[]⟩)) else none) = (domOf names ways b i).map D.str := by
    unfold domOf
    rw [List.map_filterMap]
    congr 1
    funext d
    split <;> rfl
   have hM' : ∀ j, j < names.length → M[((j : Nat) : Int).toNat]? = some (dNs (reachF ways b (j : Int))) := fun j hj => by
    rw [Int.toNat_natCast, hM, List.getElem?_map, List.getElem?_range hj]; rfl
   refine ex_seq (es_append (d := dStrs (sortS (domOf names ways b i))) (md := .fresh) (ev_b1 (id := "sorted") evv_builtin (ev_comp (md := .free) (m₁ := .flat) (l := List.range names.length) (g := dInt) (out := fun d : Nat => if !(reachF ways b (d : Int)).contains i then some (D.str (names.getD d ⟨#[]⟩)) else none) [(sz "missed", .dat true (.lst M)), (sz "names", .dat false (dStrs names)), (sz "v", .dat false (dInt i))] [sz "d"] (rng m0) ?_ (by kernel_rfl) (fun j hj => ?_) ?_) ?_) m5 u5 hz) (ex_nil ?_)
   ·intro p m
    simp only [List.mem_cons, List.not_mem_nil, or_false] at m
    rcases m with rfl | rfl | rfl
    ·exact m4
    ·exact m0
    ·exact m6
   ·have hj' : j < names.length := by simpa using hj
    refine ⟨_, bd_name (fr := false) u3, .keep (.keep (.keep (.hide .nil))), ?_⟩
    have ht : ∀ {ρ : Rho} {q1 q2 q3 q4 q5 : Pos} {sc' : Scope}, (sz "v", .dat false (dInt i)) ∈ ρ → (sz "missed", .dat true (.lst M)) ∈ ρ → (sz "d", .dat false (dInt j)) ∈ ρ → isVar sc' (sz "v") = true → isVar sc' (sz "missed") = true → isVar sc' (sz "d") = true → Ts w (k + 1) sc' ρ (.Compare (.Name (sz "v") q1) [.NotIn] [.Subscript (.Name (sz "missed") q2) (.Name (sz "d") q3) q4] q5) (!(reachF ways b (j : Int)).contains i) := fun n1 n2 n3 v1 v2 v3 =>
     ts_cmp (ev_dat n1 v1) (ev_sub (ev_dat n2 v2) (ev_dat n3 v3) (sub_list (by lia) (by lia) (hM' j hj'))) cmp_notInN
    cases hc : !(reachF ways b (j : Int)).contains i with
    | true =>
     dsimp only
     simp only [if_true]
     refine ⟨ifs_one (Eq.mp (congrArg (Ts w (k + 1) _ _ _) hc) (ht m2 m0 m3 (by kernel_rfl) (by kernel_rfl) (by kernel_rfl))), (ev_sub (ev_dat m1) (ev_dat m3) (sub_list (d := .str (names.getD j ⟨#[]⟩)) (by lia) (by lia) (by rw [Int.toNat_natCast]; exact getD_map (a := (⟨#[]⟩ : Str)) D.str hj'))).up⟩
    | false =>
     dsimp only
     simp only [Bool.false_eq_true, if_false]
     exact ifs_one (Eq.mp (congrArg (Ts w (k + 1) _ _ _) hc) (ht m2 m0 m3 (by kernel_rfl) (by kernel_rfl) (by kernel_rfl)))
   ·rw [List.length_range]; show _ ≤ 16777216; lia
   ·rw [hS]
    exact bi_sorted (by have := domOf_len names ways b i; lia) (by decide)
   ·rw [← hdue, ← ht]
    exact .keep (.keep (.keep (.keep (.keep (.keep (.hide .nil))))))
  ·have hdue : dueAt names ways b i = [] := by unfold dueAt; rw [if_neg (by rw [h]; decide)]
   refine ex_seq (es_append (d := dStrs []) (md := .fresh) (ev_list evl_nil) m5 u5 hz) (ex_nil ?_)
   rw [← hdue, ← ht]
   exact .keep (.keep (.keep (.keep (.keep (.keep (.hide .nil))))))
 ·show ρo ((List.range names.length).map dInt).length .hid = _
  rw [List.length_map, List.length_range]
 ·refine ex_return_own m5 ?_
  show D.lst _ = dRows _
  unfold dueF dRows
  rw [List.map_map, List.take_of_length_le (by rw [List.length_range]; exact Nat.le_refl _)]
  rfl
noncomputable def dNss (l : List (List Nat)) : D := .lst (l.map dNs)
noncomputable def toldAt (row : List Str) (chains : List (List Nat)) (nm : Str) : List Str := if row.contains nm then sortS ((chains.getD (posIn row nm) []).map fun j => row.getD j ⟨#[]⟩) else []
noncomputable def toldF (names row : List Str) (chains : List (List Nat)) : List (List Str) := names.map (toldAt row chains)
theorem told_ok (w : World) (k : Nat) (names row : List Str) (chains : List (List Nat)) (hn : names.length ≤ 6) (hr : row.length ≤ 6) (hcl : chains.length ≤ 6) (hp : ∀ nm ∈ names, row.contains nm = true → posIn row nm < chains.length) (hc : ∀ c ∈ chains, c.length ≤ 6 ∧ ∀ j ∈ c, j < row.length) : FnOK w (k + 2) 370 [dStrs names, dStrs row, dNss chains] [] (dRows (toldF names row chains)) := by
 refine fn_ok (F_told w) (hids := [sz "told", sz "name"]) (B_told w _ _ _) rfl (by decide +kernel) (by kernel_rfl) ?_
 show Ex w (k + 1) (sc (st 82)) [(sz "names", .dat false (dStrs names)), (sz "row", .dat false (dStrs row)), (sz "chains", .dat false (dNss chains)), (sz "told", .hid), (sz "name", .hid)] (bo (st 82)) _ _
 conv in bo (st 82) => whnf
 let ρo : Nat → LV → Rho := fun i v => [(sz "names", .dat false (dStrs names)), (sz "row", .dat false (dStrs row)), (sz "chains", .dat false (dNss chains)), (sz "told", .own false ((names.take i).map fun v => dStrs (toldAt row chains v))), (sz "name", v)]
 refine ex_seq (es_new (ds := []) (md := .fresh) evl_nil u3) ?_
 refine ex_cons (es_for (K := fun r => r = ρo names.length .hid) (fun i => ρo i .hid) (it_list (ev_dat m0)) (by show Weak (ρo 0 .hid) (ρo 0 .hid); exact .refl _) (fun i d hd => ?_) ?_) fun _ e => e ▸ ?_
 ·rw [List.getElem?_map] at hd
  obtain ⟨nm, hnm, rfl⟩ := Option.map_eq_some_iff.mp hd
  have ht : (names.take (i + 1)).map (fun v => dStrs (toldAt row chains v)) = (names.take i).map (fun v => dStrs (toldAt row chains v)) ++ [dStrs (toldAt row chains nm)] := by
   rw [List.take_add_one, hnm, Option.toList_some, List.map_append]; rfl
  have hz : ((names.take i).map fun v => dStrs (toldAt row chains v)).length ≤ sizeLine := by
   rw [List.length_map, List.length_take]; show _ ≤ 16777216; lia
  refine ⟨_, bd_name (fr := false) u4, ?_⟩
  refine ex_cons (es_if (K := fun r => Weak r _) (ts_cmp (ev_dat m4) (ev_dat m1) cmp_inS) (fun h => ?_) (fun h => ?_)) fun _ e => ex_nil e
  ·have hpos := hp nm (List.mem_of_getElem? hnm) h
   obtain ⟨C, hC⟩ : ∃ C, C = chains.getD (posIn row nm) [] := ⟨_, rfl⟩
   have hCm : C ∈ chains := by rw [hC, List.getD_eq_getElem?_getD, List.getElem?_eq_getElem hpos]; exact List.getElem_mem hpos
   obtain ⟨hCl, hCj⟩ := hc C hCm
   have hdue : toldAt row chains nm = sortS (C.map fun j => row.getD j ⟨#[]⟩) := by unfold toldAt; rw [if_pos h, hC]
   have hS : (C.filterMap fun j => some (D.str (row.getD j ⟨#[]⟩))) = (C.map fun j => row.getD j ⟨#[]⟩).map D.str := by
    rw [List.map_map, ← List.filterMap_eq_map]; rfl
   refine ex_seq (es_append (d := dStrs (sortS (C.map fun j => row.getD j ⟨#[]⟩))) (md := .fresh) (ev_b1 (id := "sorted") evv_builtin (ev_comp (md := .free) (m₁ := .free) (l := C) (g := dInt) (out := fun j : Nat => some (D.str (row.getD j ⟨#[]⟩))) [(sz "row", .dat false (dStrs row))] [sz "j"] (it_list (ev_sub (ev_dat m2) (ev_call evv_glob (F_bleft w) (evl_cons (ev_dat m1) (evl_cons (ev_dat m4) evl_nil)) (bleft_ok w k row nm (by lia))) (sub_list (d := dNs C) (by lia) (by lia) (by rw [Int.toNat_natCast, hC]; exact getD_map (a := ([] : List Nat)) dNs hpos)))) ?_ (by kernel_rfl) (fun j hj => ?_) ?_) ?_) m3 u3 hz) (ex_nil ?_)
   ·intro p m
    simp only [List.mem_cons, List.not_mem_nil, or_false] at m
    subst m; exact m1
   ·exact ⟨_, bd_name (fr := false) u1, .keep (.hide .nil), ifs_nil, (ev_sub (ev_dat m0) (ev_dat m1) (sub_list (d := .str (row.getD j ⟨#[]⟩)) (by lia) (by have := hCj j hj; lia) (by rw [Int.toNat_natCast]; exact getD_map (a := (⟨#[]⟩ : Str)) D.str (hCj j hj)))).up⟩
   ·show _ ≤ 16777216; lia
   ·rw [hS]
    exact bi_sorted (by rw [List.length_map]; lia) (by decide)
   ·rw [← hdue, ← ht]
    exact .keep (.keep (.keep (.keep (.hide .nil))))
  ·have hdue : toldAt row chains nm = [] := by unfold toldAt; rw [if_neg (by rw [h]; decide)]
   refine ex_seq (es_append (d := dStrs []) (md := .fresh) (ev_list evl_nil) m3 u3 hz) (ex_nil ?_)
   rw [← hdue, ← ht]
   exact .keep (.keep (.keep (.keep (.hide .nil))))
 ·show ρo (names.map D.str).length .hid = _
  rw [List.length_map]
 ·refine ex_return_own m3 ?_
  show D.lst _ = dRows _
  unfold toldF dRows
  rw [List.map_map, List.take_length]
  rfl
section
open PySem.SeqAt
mutual
noncomputable def D.py : D → PyData
 | .none => .none
 | .bool b => .bool b
 | .int i => .int i
 | .str x => .str x
 | .tup l => .tuple (D.pys l)
 | .lst l => .list (D.pys l)
 | .hdr _ => .none
 | .lam _ _ => .none
 | .opq _ => .none
noncomputable def D.pys : List D → List PyData
 | [] => []
 | d :: r => D.py d :: D.pys r
end
noncomputable def D.ok : Nat → D → Bool
 | _, .int _ => true
 | _, .str x => PyData.strOk x
 | n + 1, .tup l => l.all (D.ok n)
 | n + 1, .lst l => l.all (D.ok n)
 | _, _ => false
theorem reads_all {h : Heap} {N : Addr → Prop} {n : Nat} (ih : ∀ {v d}, D.ok n d = true → At h N v d → ∃ as, Reads h v d.py as) : ∀ {vs : List Value} {ds : List D}, ds.all (D.ok n) = true → AtL h N vs ds → ∃ as, ReadsAll h vs (D.pys ds) as
 | _, [], _, .nil => ⟨_, .nil⟩
 | _, d :: ds, ho, .cons a r => by
  rw [List.all_cons, Bool.and_eq_true] at ho
  obtain ⟨as, ha⟩ := ih ho.1 a
  obtain ⟨bs, hb⟩ := reads_all ih ho.2 r
  exact ⟨_, .cons ha hb⟩
theorem reads_at {h : Heap} {N : Addr → Prop} : ∀ (n : Nat) {v : Value} {d : D}, D.ok n d = true → At h N v d → ∃ as, Reads h v d.py as := by
 intro n
 induction n with
 | zero =>
  intro v d ho a
  cases a with
  | int i t => exact ⟨_, .int _ _⟩
  | str x t => exact ⟨_, .str _ _⟩
  | _ => simp [D.ok] at ho
 | succ n ih =>
  intro v d ho a
  cases a with
  | int i t => exact ⟨_, .int _ _⟩
  | str x t => exact ⟨_, .str _ _⟩
  | tup nn i r =>
   obtain ⟨o, e, c, m, dd⟩ := i
   obtain ⟨as, ha⟩ := reads_all ih (by rw [D.ok] at ho; exact ho) r
   exact ⟨_, .tuple e c dd ha⟩
  | lst nn i r =>
   obtain ⟨o, e, c, m, dd⟩ := i
   obtain ⟨as, ha⟩ := reads_all ih (by rw [D.ok] at ho; exact ho) r
   exact ⟨_, .list e c dd ha⟩
  | _ => simp [D.ok] at ho
theorem lay_all {n : Nat} (ih : ∀ d, D.ok n d = true → d.py.canLay0 = true) : ∀ ds : List D, ds.all (D.ok n) = true → PyData.canLayAll0 (D.pys ds) = true
 | [], _ => rfl
 | d :: ds, ho => by
  rw [List.all_cons, Bool.and_eq_true] at ho
  show (d.py.canLay0 && PyData.canLayAll0 (D.pys ds)) = true
  rw [ih d ho.1, lay_all ih ds ho.2]; rfl
theorem lay_at : ∀ (n : Nat) (d : D), D.ok n d = true → d.py.canLay0 = true := by
 intro n
 induction n with
 | zero =>
  intro d h
  cases d with
  | int i => rfl
  | str x => rw [D.ok] at h; rw [D.py, PyData.canLay0]; exact h
  | _ => simp [D.ok] at h
 | succ n ih =>
  intro d h
  cases d with
  | int i => rfl
  | str x => rw [D.ok] at h; rw [D.py, PyData.canLay0]; exact h
  | tup l => rw [D.py, PyData.canLay0]; exact lay_all ih l (by rw [D.ok] at h; exact h)
  | lst l => rw [D.py, PyData.canLay0]; exact lay_all ih l (by rw [D.ok] at h; exact h)
  | _ => simp [D.ok] at h
theorem depth_all {n : Nat} (ih : ∀ d, D.ok n d = true → d.py.depth ≤ n + 1) : ∀ ds : List D, ds.all (D.ok n) = true → PyData.depthAll (D.pys ds) ≤ n + 1
 | [], _ => by simp [D.pys, PyData.depthAll]
 | d :: ds, ho => by
  rw [List.all_cons, Bool.and_eq_true] at ho
  have h1 := ih d ho.1
  have h2 := depth_all ih ds ho.2
  rw [D.pys, PyData.depthAll]
  lia
theorem depth_at : ∀ (n : Nat) (d : D), D.ok n d = true → d.py.depth ≤ n + 1 := by
 intro n
 induction n with
 | zero =>
  intro d h
  cases d with
  | int i => simp [D.py, PyData.depth]
  | str x => simp [D.py, PyData.depth]
  | _ => simp [D.ok] at h
 | succ n ih =>
  intro d h
  cases d with
  | int i => simp [D.py, PyData.depth]
  | str x => simp [D.py, PyData.depth]
  | tup l => have := depth_all ih l (by rw [D.ok] at h; exact h); rw [D.py, PyData.depth]; lia
  | lst l => have := depth_all ih l (by rw [D.ok] at h; exact h); rw [D.py, PyData.depth]; lia
  | _ => simp [D.ok] at h
theorem mix_all {n : Nat} (ih : ∀ d d', D.ok n d = true → D.ok n d' = true → noMix d.py d'.py = true) : ∀ ds ds' : List D, ds.all (D.ok n) = true → ds'.all (D.ok n) = true → noMixAll (D.pys ds) (D.pys ds') = true
 | [], [], _, _ => by simp [D.pys, noMixAll]
 | [], _ :: _, _, _ => by simp [D.pys, noMixAll]
 | _ :: _, [], _, _ => by simp [D.pys, noMixAll]
 | d :: ds, d' :: ds', h, h' => by
  rw [List.all_cons, Bool.and_eq_true] at h h'
  rw [D.pys, D.pys, noMixAll, ih d d' h.1 h'.1, mix_all ih ds ds' h.2 h'.2]; rfl
theorem mix_at : ∀ (n : Nat) (d d' : D), D.ok n d = true → D.ok n d' = true → noMix d.py d'.py = true := by
 intro n
 induction n with
 | zero =>
  intro d d' h h'
  cases d <;> (try (simp [D.ok] at h; done)) <;> cases d' <;> (try (simp [D.ok] at h'; done)) <;> simp [D.py, noMix]
 | succ n ih =>
  intro d d' h h'
  cases d <;> (try (simp [D.ok] at h; done)) <;> cases d' <;> (try (simp [D.ok] at h'; done)) <;> (try (simp [D.py, noMix]; done))
  all_goals
   rw [D.py, D.py, noMix]
   exact mix_all ih _ _ (by rw [D.ok] at h; exact h) (by rw [D.ok] at h'; exact h')
theorem inj_all {n : Nat} (ih : ∀ d d', D.ok n d = true → D.ok n d' = true → d.py = d'.py → d = d') : ∀ ds ds' : List D, ds.all (D.ok n) = true → ds'.all (D.ok n) = true → D.pys ds = D.pys ds' → ds = ds'
 | [], [], _, _, _ => rfl
 | [], _ :: _, _, _, e => by cases e
 | _ :: _, [], _, _, e => by cases e
 | d :: ds, d' :: ds', h, h', e => by
  rw [List.all_cons, Bool.and_eq_true] at h h'
  have e : d.py :: D.pys ds = d'.py :: D.pys ds' := e
  rw [List.cons.injEq] at e
  rw [ih d d' h.1 h'.1 e.1, inj_all ih ds ds' h.2 h'.2 e.2]
theorem inj_at : ∀ (n : Nat) (d d' : D), D.ok n d = true → D.ok n d' = true → d.py = d'.py → d = d' := by
 intro n
 induction n with
 | zero =>
  intro d d' h h' e
  cases d <;> (try (simp [D.ok] at h; done)) <;> cases d' <;> (try (simp [D.ok] at h'; done)) <;> simp [D.py] at e <;> rw [e]
 | succ n ih =>
  intro d d' h h' e
  cases d <;> (try (simp [D.ok] at h; done)) <;> cases d' <;> (try (simp [D.ok] at h'; done)) <;> simp [D.py] at e <;> (try (rw [e]; done))
  all_goals
   rw [inj_all ih _ _ (by rw [D.ok] at h; exact h) (by rw [D.ok] at h'; exact h') e]
section
variable {w : World} {k : Nat} {sc : Scope} {ρ : Rho} {m₁ m₂ : Md} {d d' : D} {b : Bool}
theorem cmp_eqD (n : Nat) (h : D.ok n d = true) (h' : D.ok n d' = true) (hb : b = true ↔ d = d') (hn : n ≤ 60 := by lia) : Cmp w k sc ρ .Eq m₁ d m₂ d' b := fun A c s Q E v₁ v₂ R S h₁ h₂ q => by
 obtain ⟨as, r₁⟩ := reads_at n h h₁
 obtain ⟨bs, r₂⟩ := reads_at n h' h₂
 have sh : ∀ x, D.ok n x = true → shaped x.py = true := fun x hx => by
  unfold shaped; rw [lay_at n x hx]; have := depth_at n x hx; simp; lia
 refine eq_dataH_same r₁ r₂ (sh _ h) (sh _ h') (by have := R.units; lia) (mix_at n _ _ h h') ?_
 have e : PySem.Spec.same d.py d'.py = b := by
  rw [Bool.eq_iff_iff, PyProof.Rows.same_iff, hb]
  exact ⟨inj_at n _ _ h h', fun e => e ▸ rfl⟩
 rw [e]
 exact q s (.refl s)
theorem cmp_neD (n : Nat) (h : D.ok n d = true) (h' : D.ok n d' = true) (hb : b = true ↔ d ≠ d') (hn : n ≤ 60 := by lia) : Cmp w k sc ρ .NotEq m₁ d m₂ d' b := fun A c s Q E v₁ v₂ R S h₁ h₂ q => by
 obtain ⟨as, r₁⟩ := reads_at n h h₁
 obtain ⟨bs, r₂⟩ := reads_at n h' h₂
 have sh : ∀ x, D.ok n x = true → shaped x.py = true := fun x hx => by
  unfold shaped; rw [lay_at n x hx]; have := depth_at n x hx; simp; lia
 refine ne_dataH_same r₁ r₂ (sh _ h) (sh _ h') (by have := R.units; lia) (mix_at n _ _ h h') ?_
 have e : (!PySem.Spec.same d.py d'.py) = b := by
  rw [Bool.eq_iff_iff, hb, Bool.not_eq_true', ← Bool.not_eq_true, PyProof.Rows.same_iff]
  exact ⟨fun z e => z (e ▸ rfl), fun z e => z (inj_at n _ _ h h' e)⟩
 rw [e]
 exact q s (.refl s)
end
end
section
variable {w : World} {k : Nat} {sc : Scope} {ρ ρ' : Rho} {md m₁ : Md} {c : Cx} {h h' : Heap} {pos p₁ : Pos} {x : Str}
theorem es_compV {α : Type} {l : List α} {g : α → D} {out : α → Option D} {target iter elt : PySem.Expr} {ifs : List PySem.Expr} {scope : Scope} {p₂ : Pos} {R : D → Prop} {rs : List D} (caps : Rho) (locs : List Str)
  (hit : ItOK w k sc ρ false m₁ iter (l.map g)) (hc : ∀ p ∈ caps, p ∈ ρ) (ok : compOk scope sc (caps.map (·.1)) locs = true)
  (step : ∀ a ∈ l, ∃ ρb, Bd w k (relab scope sc) m₁ target (g a) (rhoC caps locs) ρb ∧ Weak ρb (rhoC caps locs) ∧ match out a with
   | none => IfsT w k (relab scope sc) ρb ifs false
   | some r => IfsT w k (relab scope sc) ρb ifs true ∧ Ev w k (relab scope sc) ρb md elt r)
  (hz : l.length ≤ sizeLine) (u : Upd ρ x (.own false rs) ρ')
  (hx : isStore sc x = true)
  (hm : md.le .fresh = true) (hfl : rs.all D.flat = true) (hsw : ∀ env : Env, swapsWith (.ListComp elt [⟨target, iter, ifs, 0⟩] scope pos) (some (.Name x p₁)) p₂.line { env with scope := sc } = pure false := by intro _; kernel_rfl) (ht : (∀ I v, letOwnedTupleGo target (.ref I) v = pure ()) ∨ ∃ elts n p, target = .Tuple elts n p := by first | exact .inl (fun _ _ => rfl) | exact .inr ⟨_, _, _, rfl⟩) (hm₁ : m₁.le .free = true := by rfl)
  (hs : ∀ env x, foldedSetIterable iter env x = pure x := by intro _ _; rfl) (hturn : Last elt [⟨target, iter, ifs, 0⟩] scope pos 0 target iter ifs := by intro _ _ _; rfl) (hrs : l.filterMap out = rs := by rfl) : Es w k sc ρ (.Assign [.Name x p₁] (.ListComp elt [⟨target, iter, ifs, 0⟩] scope pos) p₂) (fun r => r = ρ') R := fun A c s Q E Rm S q r => by
 subst hrs
 have hmo : md.le .free = true := by cases md <;> first | rfl | cases hm
 refine wpAny_Assign_Name ?_ (env_sc S.scp ▸ hsw c.env)
 show wpAny _ A (comprehension (.ListComp elt [⟨target, iter, ifs, 0⟩] scope pos) scope c.env iter.pos (newList []) false (eval iter c.env) none) _ _ s
 refine comp_run hit hc ok step ht hz hm₁ hmo hs hturn A c s _ _ none _ Rm S fun C Dd s' vs hC hD nCD hns z pl at' => ?_
 obtain ⟨m, n⟩ := hns
 have neT : ∀ a, s.heap.get? a = none → a ≠ TF := fun a e => by exact ne_TF S.base e
 refine ⟨m, n, fun h' sb => ?_⟩
 have Z : Kps s { s' with heap := h' } := z.other hC (neT _ hC) sb (let ⟨o, es, ep, e, d, _⟩ := n; ⟨o, e, noFields fun vs z => by rw [d] at z; cases z⟩)
 have P : Kp s.heap h' := Z.kp
 have pl' : h'.PlainList Dd vs.toArray := pl.at fun o e => (sb.2 Dd (Ne.symm nCD)).trans e
 obtain ⟨nD, hb⟩ := id pl'
 have nM : c.F Dd := (S.newN (md := .fresh) hD (by intro z; cases z)).2.2
 have S₂ := S.grow P hD hb (noFields fun vs z => by cases z)
 let c₂ : Cx := { c with mu := fun a => c.mu a ∨ a = Dd, ad := fun y => if y = x then Dd else c.ad y }
 have ad' : ∀ y, y ≠ x → c₂.ad y = c.ad y := fun y hy => if_neg hy
 have adx : c₂.ad x = Dd := if_pos rfl
 obtain ⟨ρ₀, u₀, u₁⟩ : ∃ ρ₀, Upd ρ x .hid ρ₀ ∧ Upd ρ₀ x (.own false (l.filterMap out)) ρ' := u.mid
 have W₀ : Weak ρ ρ₀ := u₀.weak
 have S₃ := S₂.weak W₀
 have nx : ∀ l, (x, l) ∈ ρ₀ → l = .hid := fun l m => by
  rcases u₀.mem S.nodup m with ⟨_, e⟩ | ⟨n, _⟩
  ·exact e
  ·exact absurd rfl n
 have S₄ : St w sc c₂ h' ρ₀ := by
  refine { S₃ with vals := fun y l m => ?_, own := fun y y' sh sh' ds ds' m m' ea => ?_ , base₀ := S₃.base₀, keep := S₃.keep, hM := S₃.hM, hF := S₃.hF, scp := S₃.scp, fn := S₃.fn, glo := S₃.glo, blt := S₃.blt, mutL := S₃.mutL, mutC := S₃.mutC, mutO := S₃.mutO, vars := ⟨S₃.vars.ns, S₃.vars.cel, S₃.vars.inj⟩, nodup := S₃.nodup, hidO := S₃.hidO, lkO := S₃.lkO }
  ·by_cases hy : y = x
   ·subst hy; rw [nx l m]; trivial
   ·have H := S₃.vals y l m
    cases l with
    | dat fr d => exact H
    | own sh ds =>
     unfold Holds at H ⊢
     rw [ad' y hy]
     cases sh with
     | false => exact H
     | true => exact H
    | val v' d' => exact H
    | ro d => exact H
    | hid => trivial
  ·have hy : y ≠ x := by rintro rfl; cases nx _ m
   have hy' : y' ≠ x := by rintro rfl; cases nx _ m'
   rw [ad' y hy, ad' y' hy'] at ea
   exact S₃.own y y' sh sh' ds ds' m m' ea
 have X₄ : Ext c s c₂ { s' with heap := h' } := ⟨rfl, rfl, rfl, rfl, rfl, rfl, fun _ q => .inl q, fun a q => q.imp id fun e => by subst e; exact ⟨hD, neT _ hD⟩, P.to, let ⟨h, t, e, _⟩ := Z; ⟨h, t, e⟩⟩
 refine store (c := c₂) (s := { s' with heap := h' }) S₄ hx fun h'' tk zs => ?_
 refine q _ _ ρ' (X₄.trans (zs.ext (s := { s' with heap := h' }) S₄ tk)) (zs.st S₄ u₁ (by rintro _ _ e'; cases e') (by
  rintro sh ds' e'
  cases e'
  refine ⟨by show Value.ref _ = Value.ref (c₂.ad x); rw [adx], ⟨.inr adx, by rw [adx]; exact nM⟩, vs, ?_, at'.flatten hfl⟩
  rw [adx]; exact pl') (by rintro _ _ e'; cases e') (by
  rintro sh ds' e' y sh' ds₂ ny m
  cases e'
  rw [adx, ad' y ny]
  have mS : ∃ sh ds, (y, LV.own sh ds) ∈ ρ := by
   rcases W₀.mem m with m | m
   ·exact ⟨_, _, m⟩
   ·cases m
  obtain ⟨_, _, mS⟩ := mS
  obtain ⟨_, _, _, ⟨mm, _⟩, _⟩ := S.vals y _ mS
  rintro e
  obtain ⟨_, ⟨o, eo⟩, _⟩ := S.mutO _ mm
  rw [← e, hD] at eo; cases eo)) rfl
end
noncomputable def chainF (a : List Int) : Nat → Nat → List Nat
 | 0, j => [j]
 | f + 1, j => if (a.getD j (-1)) == (j : Int) then [j] else chainF a f (a.getD j (-1)).toNat ++ [j]
noncomputable def chainOf (a : List Int) (j : Nat) : List Nat := if (a.getD j (-1)) == (-1) then [] else chainF a 7 j
noncomputable def frontStep (a : List Int) (fr : List Nat) (j : Nat) : List Nat := if (a.getD j (-1)) != (-1) then (if fr == [] then chainOf a j else frontF fr (chainOf a j)) else fr
noncomputable def frontOf (a : List Int) (heads : List Nat) : List Nat := heads.foldl (frontStep a) []
noncomputable def turn (begin : Nat) (ahead : List (List Nat)) (a : List Int) (k : Nat) : Option (List Int) :=
 let fr := frontOf a (ahead.getD k [])
 if ((k : Int) != (begin : Int)) && (fr != [] && ((a.getD k (-1)) != ((fr.getLast?.getD 0 : Nat) : Int))) then some (a.set k ((fr.getLast?.getD 0 : Nat) : Int)) else none
noncomputable def turns (begin : Nat) (ahead : List (List Nat)) (z : List Int × Bool) (k : Nat) : List Int × Bool := match turn begin ahead z.1 k with
 | some a => (a, true)
 | none => z
noncomputable def pass (begin : Nat) (ahead : List (List Nat)) (a : List Int) : List Int × Bool := (List.range ahead.length).foldl (turns begin ahead) (a, false)
noncomputable def settle (begin : Nat) (ahead : List (List Nat)) : Nat → List Int → List Int
 | 0, a => a
 | f + 1, a => if (pass begin ahead a).2 then settle begin ahead f (pass begin ahead a).1 else (pass begin ahead a).1
noncomputable def stops (begin : Nat) (ahead : List (List Nat)) : Nat → List Int → Prop
 | 0, _ => False
 | f + 1, a => (pass begin ahead a).2 = true → stops begin ahead f (pass begin ahead a).1
structure ChainsOK (begin : Nat) (ahead : List (List Nat)) (Inv : List Int → Prop) : Prop where
 len : ∀ a, Inv a → a.length = ahead.length
 up : ∀ a, Inv a → ∀ j, j < ahead.length → a.getD j (-1) ≠ -1 → Up a j (chainOf a j) ∧ (chainOf a j).length ≤ 6
 step : ∀ a, Inv a → ∀ k, k < ahead.length → ∀ a', turn begin ahead a k = some a' → Inv a'
 heads : ∀ hs ∈ ahead, hs.length ≤ 1000 ∧ ∀ j ∈ hs, j < ahead.length
 small : ahead.length ≤ 6
 begin : begin < ahead.length
theorem chain_no (w : World) (n : Nat) (above : List Int) (k : Nat) (h : above[k]? = some (-1)) (hl : above.length ≤ 100) : FnOK w (n + 1) 343 [.lst (above.map .int), .int k] [] (dNats []) := by
 refine fn_ok (F_chain w) (hids := [sz "chain"]) (B_chain w _ _) rfl (by decide +kernel) (by kernel_rfl) ?_
 show Ex w n (sc (st 77)) [(sz "above", .dat false (.lst (above.map .int))), (sz "k", .dat false (.int k)), (sz "chain", .hid)] (bo (st 77)) _ _
 conv in bo (st 77) => whnf
 refine ex_cons (es_if (K := fun r => False) (ts_cmp (ev_sub (ev_dat m0) (ev_dat m1) (sub_list (by lia) (up_lt h hl) (getD_map_int h))) (ev_neg ev_int) cmp_eqI) (fun _ => ex_return (md := .fresh) (ev_list evl_nil) rfl) (fun h => by cases h)) fun _ e => e.elim
section
variable {begin : Nat} {ahead : List (List Nat)} {Inv : List Int → Prop}
theorem chain_any (C : ChainsOK begin ahead Inv) (w : World) (n : Nat) {a : List Int} (I : Inv a) {j : Nat} (hj : j < ahead.length) : FnOK w (n + 1) 343 [.lst (a.map .int), .int j] [] (dNats (chainOf a j)) := by
 have hl : a.length ≤ 100 := by rw [C.len a I]; have := C.small; lia
 have hja : j < a.length := by rw [C.len a I]; exact hj
 by_cases h : a.getD j (-1) = -1
 ·have : chainOf a j = [] := by unfold chainOf; rw [if_pos (by rw [h]; rfl)]
  rw [this]
  refine chain_no w n a j ?_ hl
  rw [List.getD_eq_getElem?_getD, List.getElem?_eq_getElem hja] at h
  rw [List.getElem?_eq_getElem hja]
  exact congrArg some h
 ·obtain ⟨u, l⟩ := C.up a I j hj h
  exact chain_ok w n a j _ u (by lia) hl
noncomputable def rhoS (ahead : List (List Nat)) (begin : Nat) (a : List Int) (ch kk fr jj cc : LV) : Rho := [(sz "ahead", .dat false (dNss ahead)), (sz "begin", .dat false (.int begin)), (sz "above", .own false (a.map .int)), (sz "changed", ch), (sz "k", kk), (sz "front", fr), (sz "j", jj), (sz "chain", cc)]
theorem frontF_len (one two : List Nat) : (frontF one two).length ≤ one.length := by unfold frontF; rw [List.length_take]; exact Nat.min_le_right _ _
theorem front_len (C : ChainsOK begin ahead Inv) {a : List Int} (I : Inv a) : ∀ (l : List Nat), (∀ j ∈ l, j < ahead.length) → ∀ fr : List Nat, fr.length ≤ 6 → (l.foldl (frontStep a) fr).length ≤ 6
 | [], _, fr, h => h
 | j :: l, hl, fr, h => by
  rw [List.foldl_cons]
  refine front_len C I l (fun k q => hl k (.tail _ q)) _ ?_
  unfold frontStep
  split
  ·rename_i hj
   split
   ·exact (C.up a I j (hl j (.head _)) (by simpa using hj)).2
   ·exact Nat.le_trans (frontF_len _ _) h
  ·exact h
theorem ok_nats (l : List Nat) : D.ok 1 (dNats l) = true := by
 unfold dNats; rw [D.ok]; simp [D.ok]
theorem nil_nats (l : List Nat) : (l == []) = true ↔ dNats l = dNats [] := by
 cases l <;> simp [dNats]
theorem nen_nats (l : List Nat) : (l != []) = true ↔ dNats l ≠ dNats [] := by
 cases l <;> simp [dNats]
theorem pass_at (C : ChainsOK begin ahead Inv) : ∀ (l : List Nat), (∀ k ∈ l, k < ahead.length) → ∀ z : List Int × Bool, Inv z.1 → Inv (l.foldl (turns begin ahead) z).1
 | [], _, z, h1 => h1
 | k :: l, hl, z, h1 => by
  rw [List.foldl_cons]
  refine pass_at C l (fun k q => hl k (.tail _ q)) _ ?_
  unfold turns
  cases ht : turn begin ahead z.1 k with
  | none => exact h1
  | some a' => exact C.step z.1 h1 k (hl k (.head _)) a' ht
theorem chains_ok (C : ChainsOK begin ahead Inv) (w : World) (n : Nat) (a₀ : List Int) (ha₀ : a₀ = (ahead.map fun _ => (-1 : Int)).set begin begin) (I₀ : Inv a₀) (F : Nat) (hF : stops begin ahead F a₀) : FnOK w (n + 4) 353 [dNss ahead, .int begin] [] (dNss ((List.range ahead.length).map (chainOf (settle begin ahead F a₀)))) := by
 refine fn_ok (F_chains w) (hids := [sz "above", sz "changed", sz "k", sz "front", sz "j", sz "chain"]) (B_chains w _ _) rfl (by decide +kernel) (by kernel_rfl) ?_
 show Ex w (n + 3) (sc (st 79)) [(sz "ahead", .dat false (dNss ahead)), (sz "begin", .dat false (.int begin)), (sz "above", .hid), (sz "changed", .hid), (sz "k", .hid), (sz "front", .hid), (sz "j", .hid), (sz "chain", .hid)] (bo (st 79)) _ _
 conv in bo (st 79) => whnf
 have hsm := C.small
 have hfm : ahead.filterMap (fun _ => some (D.int (-1))) = (ahead.map fun _ => (-1 : Int)).map D.int := by rw [List.map_map, ← List.filterMap_eq_map]; rfl
 refine ex_seq (es_compV (hrs := hfm) (md := .fresh) (m₁ := .free) (l := ahead) (g := dNs) (out := fun _ => some (D.int (-1))) [] [sz "heads"] (it_list (ev_dat m0)) (fun p q => by cases q) (by kernel_rfl) (fun i hi => ⟨_, bd_name (fr := false) u0, .hide .nil, ifs_nil, (ev_neg ev_int).up⟩) (by show _ ≤ 16777216; lia) u2 (by kernel_rfl) rfl (by simp [D.flat])) ?_
 refine ex_seq (es_setitem (ev_dat m1) (ev_dat m1) m2 u2 (by lia) (by simp; exact C.begin) (by have := C.begin; lia)) ?_
 have hset : ((ahead.map fun _ => (-1 : Int)).map D.int).set ((begin : Nat) : Int).toNat (D.int begin) = a₀.map D.int := by
  rw [ha₀, Int.toNat_natCast, List.map_set]
 rw [hset]
 refine ex_seq (es_assign (fr := false) ev_bool u3) ?_
 obtain ⟨res, hres⟩ : ∃ res, res = settle begin ahead F a₀ := ⟨_, rfl⟩
 rw [← hres]
 let ρw : List Int × Bool → Rho := fun z => rhoS ahead begin z.1 (.dat false (.bool z.2)) .hid .hid .hid .hid
 refine ex_cons (es_while (K := fun r => Inv res ∧ r = ρw (res, false)) (σ := (List Int × Bool) × Nat) (fun z => ρw z.1) (fun z => Inv z.1.1 ∧ (z.1.2 = true → stops begin ahead z.2 z.1.1 ∧ settle begin ahead z.2 z.1.1 = res) ∧ (z.1.2 = false → z.1.1 = res)) (fun z => z.1.2) (fun z => (pass begin ahead z.1.1, z.2 - 1)) (fun z => if z.1.2 then z.2 + 1 else 0) ((a₀, true), F) rfl ⟨I₀, fun _ => ⟨hF, hres.symm⟩, fun h => by cases h⟩ ?_ ?_ ?_ ?_) fun _ ⟨Ires, e⟩ => e ▸ ?_
 ·rintro ⟨⟨a, ch⟩, f⟩ ⟨I, h1, h2⟩
  exact ts_bool (ev_dat m3)
 ·rintro ⟨⟨a, ch⟩, f⟩ ⟨I, h1, h2⟩ hb
  have rng : ∀ {ρ : Rho} {q1 q2 q3 q4 q5 : Pos} {fz : Bool}, (sz "ahead", .dat false (dNss ahead)) ∈ ρ → ItOK w (n + 3) (sc (st 79)) ρ fz .flat (.Call (.Name (sz "range") q1) [.Call (.Name (sz "len") q2) [.Name (sz "ahead") q3] [] q4] [] q5) ((List.range ahead.length).map dInt) := fun {_ _ _ _ _ _ _} n1 => by
   have e : (((ahead.map dNs).length : Nat) : Int) = ((ahead.length : Nat) : Int) := by rw [List.length_map]
   exact it_range (n := ((ahead.length : Nat) : Int)) evv_builtin (e ▸ ev_b1 evv_builtin (ev_dat n1) (bi_lenL (by rw [List.length_map]; lia))) (by lia) (by lia)
  refine ex_seq (es_assign (fr := false) ev_bool u3) ?_
  let zi : Nat → List Int × Bool := fun i => ((List.range ahead.length).take i).foldl (turns begin ahead) (a, false)
  refine ex_cons (es_for (K := fun r => r = ρw (pass begin ahead a)) (fun i => ρw (zi i)) (rng m0) (by show Weak (ρw (a, false)) (ρw (a, false)); exact .refl _) (fun i d hd => ?_) ?_) fun _ e => e ▸ ex_nil rfl
  ·have hi : i < ahead.length := by have := (List.getElem?_eq_some_iff.mp hd).1; simpa using this
   rw [List.getElem?_map, List.getElem?_range hi] at hd
   cases hd
   have hz : zi (i + 1) = turns begin ahead (zi i) i := by
    show ((List.range ahead.length).take (i + 1)).foldl _ _ = _
    rw [List.take_add_one, List.getElem?_range hi, Option.toList_some, List.foldl_append]; rfl
   have Ii := pass_at C ((List.range ahead.length).take i) (fun k q => by have := List.mem_of_mem_take q; simpa using this) (a, false) I
   change Inv (zi i).1 at Ii
   obtain ⟨b, hb'⟩ : ∃ b, b = (zi i).1 := ⟨_, rfl⟩
   obtain ⟨cf, hcf⟩ : ∃ b, b = (zi i).2 := ⟨_, rfl⟩
   have hzi : zi i = (b, cf) := by rw [hb', hcf]
   rw [hz, hzi]
   rw [← hb'] at Ii
   have hbl : b.length = ahead.length := C.len b Ii
   obtain ⟨H, hH⟩ : ∃ H, H = ahead.getD i [] := ⟨_, rfl⟩
   have hHm : H ∈ ahead := by rw [hH, List.getD_eq_getElem?_getD, List.getElem?_eq_getElem hi]; exact List.getElem_mem hi
   obtain ⟨hHl, hHj⟩ := C.heads H hHm
   refine ⟨_, bd_name (fr := false) u4, ?_⟩
   refine ex_seq (es_assign (fr := true) (d := dNats []) (ev_list (md := .fresh) evl_nil) u5) ?_
   let ρj : Nat → Rho := fun t => rhoS ahead begin b (.dat false (.bool cf)) (.dat false (dInt i)) (.dat true (dNats ((H.take t).foldl (frontStep b) []))) .hid .hid
   refine ex_cons (es_for (K := fun r => r = ρj H.length) ρj (it_list (ev_sub (ev_dat m0) (ev_dat m4) (sub_list (d := dNs H) (by lia) (by lia) (by rw [Int.toNat_natCast, hH]; exact getD_map (a := ([] : List Nat)) dNs hi)))) (by show Weak (ρj 0) (ρj 0); exact .refl _) (fun t d hd => ?_) ?_) fun _ e => e ▸ ?_
   ·rw [List.getElem?_map] at hd
    obtain ⟨j, hj, rfl⟩ := Option.map_eq_some_iff.mp hd
    have hjn : j < ahead.length := hHj j (List.mem_of_getElem? hj)
    obtain ⟨fr, hfr⟩ : ∃ fr, fr = (H.take t).foldl (frontStep b) [] := ⟨_, rfl⟩
    have hfr' : (H.take (t + 1)).foldl (frontStep b) [] = frontStep b fr j := by
     rw [List.take_add_one, hj, Option.toList_some, List.foldl_append, ← hfr]; rfl
    have hfl : fr.length ≤ 6 := hfr ▸ front_len C Ii (H.take t) (fun k q => hHj k (List.mem_of_mem_take q)) [] (by simp)
    have hsub : (b.map D.int)[((j : Nat) : Int).toNat]? = some (.int (b.getD j (-1))) := by
     rw [Int.toNat_natCast]; exact getD_map (a := (-1 : Int)) D.int (by lia)
    refine ⟨_, bd_name (fr := false) u6, ?_⟩
    show Ex w (n + 3) (sc (st 79)) (rhoS ahead begin b (.dat false (.bool cf)) (.dat false (dInt i)) (.dat true (dNats ((H.take t).foldl (frontStep b) []))) (.dat false (dInt j)) .hid) _ _ _
    rw [← hfr]
    have wk : ∀ {fr2 l2}, fr2 = frontStep b fr j → Weak (rhoS ahead begin b (.dat false (.bool cf)) (.dat false (dInt i)) (.dat true (dNats fr2)) (.dat false (dInt j)) l2) (ρj (t + 1)) := fun e => by
     show Weak _ (rhoS ahead begin b (.dat false (.bool cf)) (.dat false (dInt i)) (.dat true (dNats ((H.take (t + 1)).foldl (frontStep b) []))) .hid .hid)
     rw [hfr', ← e]
     exact .keep (.keep (.keep (.keep (.keep (.keep (.hide (.hide .nil)))))))
    refine ex_cons (es_if (K := fun r => Weak r (ρj (t + 1))) (ts_cmp (ev_sub (ev_own m2) (ev_dat m6) (sub_list (by lia) (by lia) hsub)) (ev_neg ev_int) cmp_neI) (fun h => ?_) (fun h => ex_nil ?_)) fun _ e => ex_nil e
    ·have h1 := C.up b Ii j hjn (by simpa using h)
     refine ex_seq (es_assign (fr := true) (ev_call evv_glob (F_chain w) (evl_cons (ev_own m2) (evl_cons (ev_dat m6) evl_nil)) (chain_any C w (n + 2) Ii hjn)) u7) ?_
     refine ex_cons (es_if (K := fun r => Weak r (ρj (t + 1))) (b := fr == []) (ts_cmp (ev_dat m5) (ev_list (md := .fresh) evl_nil) (cmp_eqD 1 (ok_nats fr) (ok_nats []) (nil_nats fr))) (fun h2 => ?_) (fun h2 => ?_)) fun _ e => ex_nil e
     ·refine ex_seq (es_assign (fr := true) (ev_dat m7) u5) (ex_nil (wk ?_))
      unfold frontStep; rw [if_pos (by simpa using h), if_pos h2]
     ·refine ex_seq (es_assign (fr := true) (ev_call evv_glob (F_front w) (evl_cons (ev_dat m5) (evl_cons (ev_dat m7) evl_nil)) (front_ok w n fr (chainOf b j) (by lia) (by lia))) u5) (ex_nil (wk ?_))
      unfold frontStep; rw [if_pos (by simpa using h), if_neg (by rw [h2]; decide)]
    ·exact wk (by unfold frontStep; rw [if_neg (by simpa using h)])
   ·show ρj (H.map dInt).length = _
    rw [List.length_map]
   obtain ⟨fr, hfr⟩ : ∃ fr, fr = frontOf b H := ⟨_, rfl⟩
   show Ex w (n + 3) (sc (st 79)) (rhoS ahead begin b (.dat false (.bool cf)) (.dat false (dInt i)) (.dat true (dNats ((H.take H.length).foldl (frontStep b) []))) .hid .hid) _ _ _
   rw [List.take_length, show H.foldl (frontStep b) [] = fr from hfr.symm]
   have hsub : (b.map D.int)[((i : Nat) : Int).toNat]? = some (.int (b.getD i (-1))) := by
    rw [Int.toNat_natCast]; exact getD_map (a := (-1 : Int)) D.int (by lia)
   have hlast : (fr != []) = true → (fr.map fun n : Nat => D.int n).getLast? = some (.int (fr.getLast?.getD 0 : Nat)) := fun h => by
    rw [List.getLast?_map]
    cases hh : fr.getLast? with
    | none => rw [List.getLast?_eq_none_iff] at hh; rw [hh] at h; cases h
    | some x => rfl
   refine ex_cons (es_if (K := fun r => Weak r (ρw (turns begin ahead (b, cf) i))) (b := ((i : Int) != (begin : Int)) && ((fr != []) && (((b.getD i (-1)) != ((fr.getLast?.getD 0 : Nat) : Int)) && (BoolOp.And == BoolOp.And)))) (ts_boolop (allT_and (ts_cmp (ev_dat m4) (ev_dat m1) cmp_neI) fun _ => allT_and (ts_cmp (ev_dat m5) (ev_list (md := .fresh) evl_nil) (cmp_neD 1 (ok_nats fr) (ok_nats []) (nen_nats fr))) fun h => allT_and (ts_cmp (ev_sub (ev_own m2) (ev_dat m4) (sub_list (by lia) (by lia) hsub)) (ev_sub (ev_dat m5) (ev_neg ev_int) (sub_last (hlast h))) cmp_neI) fun _ => allT_nil)) (fun h => ?_) (fun h => ex_nil ?_)) fun _ e => ex_nil e
   ·have hne : (fr != []) = true := by simp only [Bool.and_eq_true] at h; exact h.2.1
    have ht : turn begin ahead b i = some (b.set i ((fr.getLast?.getD 0 : Nat) : Int)) := by
     unfold turn; rw [← hH, ← hfr]; dsimp only; rw [if_pos]
     simp only [Bool.and_eq_true] at h ⊢; exact ⟨h.1, h.2.1, h.2.2.1⟩
    refine ex_seq (es_setitem (ev_sub (ev_dat m5) (ev_neg ev_int) (sub_last (hlast hne))) (ev_dat m4) m2 u2 (by lia) (by simp; lia) (by lia)) ?_
    refine ex_seq (es_assign (fr := false) ev_bool u3) (ex_nil ?_)
    unfold turns; rw [ht]
    rw [Int.toNat_natCast, ← List.map_set]
    exact .keep (.keep (.keep (.keep (.hide (.hide (.hide (.hide .nil)))))))
   ·have ht : turn begin ahead b i = none := by
     unfold turn; rw [← hH, ← hfr]; dsimp only; rw [if_neg]
     intro z; simp only [Bool.and_eq_true] at z
     rw [z.1, z.2.1, z.2.2] at h; cases h
    unfold turns; rw [ht]
    exact .keep (.keep (.keep (.keep (.hide (.hide (.hide (.hide .nil)))))))
  ·show ρw (((List.range ahead.length).take ((List.range ahead.length).map dInt).length).foldl (turns begin ahead) (a, false)) = _
   rw [List.length_map, List.take_length]; rfl
 ·rintro ⟨⟨a, ch⟩, f⟩ ⟨I, h1, h2⟩ hb
  dsimp only at hb h1 h2 I ⊢
  subst hb
  obtain ⟨hst, hs⟩ := h1 rfl
  have Ip := pass_at C (List.range ahead.length) (fun k q => by simpa using q) (a, false) I
  change Inv (pass begin ahead a).1 at Ip
  cases f with
  | zero => exact hst.elim
  | succ f =>
   rw [settle] at hs
   refine ⟨⟨Ip, fun h => ⟨hst h, by rw [if_pos h] at hs; exact hs⟩, fun h => by rw [if_neg (by rw [h]; decide)] at hs; exact hs⟩, ?_⟩
   show (if (pass begin ahead a).2 = true then f + 1 - 1 + 1 else 0) < f + 1 + 1
   split <;> lia
 ·rintro ⟨⟨a, ch⟩, f⟩ ⟨I, h1, h2⟩ hb
  dsimp only at hb h1 h2 I ⊢
  subst hb
  cases h2 rfl
  exact ⟨I, rfl⟩
 have rng : ∀ {ρ : Rho} {q1 q2 q3 q4 q5 : Pos} {fz : Bool}, (sz "ahead", .dat false (dNss ahead)) ∈ ρ → ItOK w (n + 3) (sc (st 79)) ρ fz .flat (.Call (.Name (sz "range") q1) [.Call (.Name (sz "len") q2) [.Name (sz "ahead") q3] [] q4] [] q5) ((List.range ahead.length).map dInt) := fun {_ _ _ _ _ _ _} n1 => by
  have e : (((ahead.map dNs).length : Nat) : Int) = ((ahead.length : Nat) : Int) := by rw [List.length_map]
  exact it_range (n := ((ahead.length : Nat) : Int)) evv_builtin (e ▸ ev_b1 evv_builtin (ev_dat n1) (bi_lenL (by rw [List.length_map]; lia))) (by lia) (by lia)
 refine ex_return (d := .lst ((List.range ahead.length).filterMap fun k : Nat => some (dNats (chainOf res k)))) (ev_comp (md := .fresh) (m₁ := .flat) (l := List.range ahead.length) (g := dInt) (out := fun k : Nat => some (dNats (chainOf res k))) [(sz "above", .own false (res.map .int))] [sz "k"] (rng m0) (caps1 m2) (by kernel_rfl) (fun k hk => ?_) ?_) ?_
 ·have hk' : k < ahead.length := by simpa using hk
  exact ⟨_, bd_name (fr := false) u1, .keep (.hide .nil), ifs_nil, ev_call evv_glob (F_chain w) (evl_cons (ev_ro m0) (evl_cons (ev_dat m1) evl_nil)) (chain_any C w (n + 2) Ires hk')⟩
 ·rw [List.length_range]; show _ ≤ 16777216; lia
 ·show D.lst _ = dNss _
  unfold dNss
  rw [List.map_map, ← List.filterMap_eq_map]; rfl
end
noncomputable def dStep (p : Str × Str) : D := .tup [.str p.1, .str p.2]
noncomputable def symOf (row : List Str) (x : Str) : Int := match sign? x with
 | some i => i
 | none => 256 + (posIn row x : Nat)
noncomputable def stepS (row : List Str) (z : List D × List (Str × Str)) (s : Int) : Option (List D × List (Str × Str)) :=
 if s ≥ 256 then (match row[(s - 256).toNat]? with
  | some x => some (z.1 ++ [.str x], z.2)
  | none => none)
 else if s == 0 || (s == 13 || (BoolOp.Or == BoolOp.And)) then (match z.1 with
  | [.str a, .int m, .str b] => some ([], z.2 ++ (if m != 33 then [(a, b)] else []) ++ (if m == 33 || (m == 27 || (BoolOp.Or == BoolOp.And)) then [(b, a)] else []))
  | _ => none)
 else some (z.1 ++ [.int s], z.2)
noncomputable def rhoT (pieces row : List Str) (syms : List Int) (st : List (Str × Str)) (rd : List D) (p s : LV) : Rho := [(sz "pieces", .dat false (dStrs pieces)), (sz "row", .dat false (dStrs row)), (sz "symbols", .own false (syms.map D.int)), (sz "steps", .own false (st.map dStep)), (sz "read", .own false rd), (sz "piece", p), (sz "symbol", s)]
theorem steps_ok (w : World) (k : Nat) (pieces row : List Str) (hp : pieces.length ≤ 100) (hr : row.length ≤ 6) (zs : Nat → List D × List (Str × Str)) (h0 : zs 0 = ([], []))
  (hs : ∀ i s, (pieces.map (symOf row) ++ [0])[i]? = some s → s < 2 ^ 40 ∧ stepS row (zs i) s = some (zs (i + 1))) (hz : ∀ i, i ≤ pieces.length + 1 → (zs i).1.length ≤ 100 ∧ (zs i).2.length ≤ 1000) : FnOK w (k + 2) 336 [dStrs pieces, dStrs row] [] (.lst ((zs (pieces.length + 1)).2.map dStep)) := by
 refine fn_ok (F_steps w) (hids := [sz "symbols", sz "steps", sz "read", sz "piece", sz "symbol"]) (B_steps w _ _) rfl (by decide +kernel) (by kernel_rfl) ?_
 show Ex w (k + 1) (sc (st 76)) [(sz "pieces", .dat false (dStrs pieces)), (sz "row", .dat false (dStrs row)), (sz "symbols", .hid), (sz "steps", .hid), (sz "read", .hid), (sz "piece", .hid), (sz "symbol", .hid)] (bo (st 76)) _ _
 conv in bo (st 76) => whnf
 have sl : sizeLine = 16777216 := rfl
 refine ex_seq (es_new (ds := []) (md := .fresh) evl_nil u2) ?_
 let ρ₁ : Nat → LV → Rho := fun i v => [(sz "pieces", .dat false (dStrs pieces)), (sz "row", .dat false (dStrs row)), (sz "symbols", .own false (((pieces.take i).map (symOf row)).map D.int)), (sz "steps", .hid), (sz "read", .hid), (sz "piece", v), (sz "symbol", .hid)]
 refine ex_cons (es_for (K := fun r => r = ρ₁ pieces.length .hid) (fun i => ρ₁ i .hid) (it_list (ev_dat m0)) (by show Weak (ρ₁ 0 .hid) (ρ₁ 0 .hid); exact .refl _) (fun i d hd => ?_) ?_) fun _ e => e ▸ ?_
 ·rw [List.getElem?_map] at hd
  obtain ⟨x, hx, rfl⟩ := Option.map_eq_some_iff.mp hd
  have ht : ((pieces.take (i + 1)).map (symOf row)).map D.int = ((pieces.take i).map (symOf row)).map D.int ++ [.int (symOf row x)] := by
   rw [List.take_add_one, hx, Option.toList_some, List.map_append, List.map_append]; rfl
  have hzz : (((pieces.take i).map (symOf row)).map D.int).length ≤ sizeLine := by
   rw [List.length_map, List.length_map, List.length_take, sl]; lia
  refine ⟨_, bd_name (fr := false) u5, ?_⟩
  have wk : Weak (ρ₁ (i + 1) (.dat false (.str x))) (ρ₁ (i + 1) .hid) := .keep (.keep (.keep (.keep (.keep (.hide (.keep .nil))))))
  refine ex_cons (es_if (K := fun r => Weak r (ρ₁ (i + 1) .hid)) (ts_in130 (ev_dat m5) evv_glob) (fun h => ?_) (fun h => ?_)) fun _ e => ex_nil e
  ·obtain ⟨j, hj⟩ := Option.isSome_iff_exists.mp (show (sign? x).isSome = true from h)
   refine ex_seq (es_append (ev_item130 evv_glob (ev_dat m5) hj) m2 u2 hzz) (ex_nil ?_)
   have e : symOf row x = j := by unfold symOf; rw [hj]
   rw [← e, ← ht]; exact wk
  ·have hj : sign? x = none := Option.isNone_iff_eq_none.mp (by rw [← Option.not_isSome]; show (!(sign? x).isSome) = true; rw [show (sign? x).isSome = false from h]; rfl)
   refine ex_seq (es_append (ev_bin ev_int (ev_call evv_glob (F_bleft w) (evl_cons (ev_dat m1) (evl_cons (ev_dat m5) evl_nil)) (bleft_ok w k row x (by lia))) bin_add) m2 u2 hzz) (ex_nil ?_)
   have e : symOf row x = 256 + (posIn row x : Nat) := by unfold symOf; rw [hj]
   rw [← e, ← ht]; exact wk
 ·show ρ₁ (pieces.map D.str).length .hid = _
  rw [List.length_map]
 refine ex_seq (es_new (ds := []) (md := .fresh) evl_nil u3) ?_
 refine ex_seq (es_new (ds := []) (md := .fresh) evl_nil u4) ?_
 let ρ₂ : Nat → LV → Rho := fun i v => rhoT pieces row (pieces.map (symOf row)) (zs i).2 (zs i).1 .hid v
 have hlen : (((pieces.take pieces.length).map (symOf row)).map D.int ++ [D.int 0]) = (pieces.map (symOf row) ++ [0]).map D.int := by rw [List.take_length, List.map_append]; rfl
 refine ex_cons (es_for (K := fun r => r = ρ₂ (pieces.length + 1) .hid) (md := .fresh) (ds := ((pieces.take pieces.length).map (symOf row)).map D.int ++ [D.int 0]) (fun i => ρ₂ i .hid) (it_list (ev_bin (ev_own m2) (ev_list (md := .fresh) (evl_cons ev_int evl_nil)) (bin_addL (md := .fresh) ?_ ?_ rfl))) ?_ (fun i d hd => ?_) ?_) fun _ e => e ▸ ?_
 ·have : (((pieces.take pieces.length).map (symOf row)).map D.int).length ≤ 100 := (by rw [List.length_map, List.length_map, List.length_take]; lia)
  show _ + 1 ≤ 16777216; lia
 ·rw [Bool.or_eq_true]; right; simp [D.flat]
 ·show Weak _ (ρ₂ 0 .hid)
  simp only [ρ₂, rhoT, h0, ρ₁, List.take_length]
  exact .refl _
 ·rw [hlen, List.getElem?_map] at hd
  obtain ⟨s, hsx, rfl⟩ := Option.map_eq_some_iff.mp hd
  obtain ⟨hlt, hst⟩ := hs i s hsx
  have hi : i ≤ pieces.length + 1 := by have := (List.getElem?_eq_some_iff.mp hsx).1; simp at this; lia
  obtain ⟨hz1, hz2⟩ := hz i hi
  refine ⟨_, bd_name (fr := false) u6, ?_⟩
  obtain ⟨rd, hrd⟩ : ∃ r, r = (zs i).1 := ⟨_, rfl⟩
  obtain ⟨stp, hstp⟩ : ∃ r, r = (zs i).2 := ⟨_, rfl⟩
  have hzi : zs i = (rd, stp) := by rw [hrd, hstp]
  rw [← hrd] at hz1
  rw [← hstp] at hz2
  show Ex w (k + 1) (sc (st 76)) (rhoT pieces row (pieces.map (symOf row)) (zs i).2 (zs i).1 .hid (.dat false (.int s))) _ _ _
  rw [← hrd, ← hstp]
  rw [hzi] at hst
  have wk : ∀ {z : List D × List (Str × Str)}, zs (i + 1) = z → Weak (rhoT pieces row (pieces.map (symOf row)) z.2 z.1 .hid (.dat false (.int s))) (ρ₂ (i + 1) .hid) := fun e => by
   show Weak _ (rhoT pieces row (pieces.map (symOf row)) (zs (i + 1)).2 (zs (i + 1)).1 .hid .hid)
   rw [e]
   exact .keep (.keep (.keep (.keep (.keep (.keep (.hide .nil))))))
  refine ex_cons (es_if (K := fun r => Weak r (ρ₂ (i + 1) .hid)) (ts_bool (ev_call evv_glob (F_nont w) (evl_cons (ev_dat m6) evl_nil) (nont_ok w k s))) (fun h => ?_) (fun h => ?_)) fun _ e => ex_nil e
  ·have h' : s ≥ 256 := by simpa using h
   rw [stepS, if_pos h'] at hst
   cases hx : row[(s - 256).toNat]? with
   | none => rw [hx] at hst; cases hst
   | some x =>
    rw [hx] at hst
    have hst := (Option.some.inj hst).symm
    refine ex_seq (es_append (d := .str x) (ev_sub (ev_dat m1) (ev_bin (ev_dat m6) ev_int bin_subI) (sub_list (by lia) (by lia) (by rw [List.getElem?_map, hx]; rfl))) m4 u4 (by rw [sl]; lia)) (ex_nil (wk hst))
  ·have h' : ¬ s ≥ 256 := by simpa using h
   rw [stepS, if_neg h'] at hst
   refine ex_cons (es_if (K := fun r => Weak r (ρ₂ (i + 1) .hid)) (ts_boolop (allT_or (ts_bool (ev_call evv_glob (F_eof w) (evl_cons (ev_dat m6) evl_nil) (eof_ok w k s))) fun _ => allT_or (ts_cmp (ev_dat m6) ev_int cmp_eqI) fun _ => allT_nil)) (fun h2 => ?_) (fun h2 => ?_)) fun _ e => ex_nil e
   ·rw [if_pos h2] at hst
    obtain ⟨a, m, b, rfl⟩ : ∃ a m b, rd = [D.str a, D.int m, D.str b] := by
     dsimp only at hst
     split at hst
     ·exact ⟨_, _, _, rfl⟩
     ·cases hst
    have hst := (Option.some.inj hst).symm
    have r0 : ∀ {ρ : Rho} {q1 q2 q3 : Pos}, (sz "read", .own false [D.str a, D.int m, D.str b]) ∈ ρ → Ev w (k + 1) (sc (st 76)) ρ .any (.Subscript (.Name (sz "read") q1) (.Constant (.int 0) 0 q2) q3) (.str a) := fun {_ _ _ _} n => ev_sub (ev_own n) ev_int (sub_list (by lia) (by lia) rfl)
    have r1 : ∀ {ρ : Rho} {q1 q2 q3 : Pos}, (sz "read", .own false [D.str a, D.int m, D.str b]) ∈ ρ → Ev w (k + 1) (sc (st 76)) ρ .any (.Subscript (.Name (sz "read") q1) (.Constant (.int 1) 0 q2) q3) (.int m) := fun {_ _ _ _} n => ev_sub (ev_own n) ev_int (sub_list (by lia) (by lia) rfl)
    have r2 : ∀ {ρ : Rho} {q1 q2 q3 : Pos}, (sz "read", .own false [D.str a, D.int m, D.str b]) ∈ ρ → Ev w (k + 1) (sc (st 76)) ρ .any (.Subscript (.Name (sz "read") q1) (.Constant (.int 2) 0 q2) q3) (.str b) := fun {_ _ _ _} n => ev_sub (ev_own n) ev_int (sub_list (by lia) (by lia) rfl)
    let ρ₃ : List (Str × Str) → Rho := fun t => rhoT pieces row (pieces.map (symOf row)) t [D.str a, D.int m, D.str b] .hid (.dat false (.int s))
    obtain ⟨s₁, hs₁⟩ : ∃ x, x = stp ++ (if m != 33 then [(a, b)] else []) := ⟨_, rfl⟩
    have l₁ : s₁.length ≤ 1001 := by rw [hs₁, List.length_append]; split <;> simp <;> lia
    obtain ⟨s₂, hs₂⟩ : ∃ x, x = s₁ ++ (if m == 33 || (m == 27 || (BoolOp.Or == BoolOp.And)) then [(b, a)] else []) := ⟨_, rfl⟩
    rw [← hs₁, ← hs₂] at hst
    refine ex_cons (es_if (K := fun r => r = ρ₃ s₁) (ts_cmp (r1 m4) ev_int cmp_neI) (fun h3 => ?_) (fun h3 => ex_nil ?_)) fun _ e => e ▸ ?_
    ·refine ex_seq (es_append (ev_tuple (md := .fresh) (evl_cons (r0 m4) (evl_cons (r2 m4) evl_nil))) m3 u3 (by rw [List.length_map, sl]; lia)) (ex_nil ?_)
     rw [hs₁, if_pos h3]; simp only [ρ₃, rhoT, List.map_append]; rfl
    ·rw [hs₁, if_neg (by rw [h3]; decide), List.append_nil]
    refine ex_cons (es_if (K := fun r => r = ρ₃ s₂) (ts_boolop (allT_or (ts_cmp (r1 m4) ev_int cmp_eqI) fun _ => allT_or (ts_cmp (r1 m4) ev_int cmp_eqI) fun _ => allT_nil)) (fun h3 => ?_) (fun h3 => ex_nil ?_)) fun _ e => e ▸ ?_
    ·refine ex_seq (es_append (ev_tuple (md := .fresh) (evl_cons (r2 m4) (evl_cons (r0 m4) evl_nil))) m3 u3 (by rw [List.length_map, sl]; lia)) (ex_nil ?_)
     rw [hs₂, if_pos h3]; simp only [ρ₃, rhoT, List.map_append]; rfl
    ·rw [hs₂, if_neg (by rw [h3]; decide), List.append_nil]
    exact ex_seq (es_new (ds := []) (md := .fresh) evl_nil u4) (ex_nil (wk hst))
   ·rw [if_neg (by rw [h2]; decide)] at hst
    have hst := (Option.some.inj hst).symm
    refine ex_cons (es_if (K := fun r => Weak r (ρ₂ (i + 1) .hid)) (ts_bool (ev_call evv_glob (F_term w) (evl_cons (ev_dat m6) evl_nil) (term_ok w k s))) (fun h3 => ?_) (fun h3 => ?_)) fun _ e => ex_nil e
    ·exact ex_seq (es_append (ev_dat m6) m4 u4 (by rw [sl]; lia)) (ex_nil (wk hst))
    ·exfalso; simp at h3; lia
 ·show ρ₂ (((pieces.take pieces.length).map (symOf row)).map D.int ++ [D.int 0]).length .hid = _
  rw [hlen]; simp
 ·exact ex_return_own m3 rfl
section
variable {w : World} {k : Nat} {sc : Scope} {ρ : Rho} {m₂ : Md} {d : D} {e₂ : PySem.Expr} {pos p₁ : Pos} {ds : List D}
theorem ev_ownItem {x : Str} {i : Int} (hx : (x, .own false ds) ∈ ρ) (hi : Ev w k sc ρ m₂ e₂ (.int i)) (h0 : 0 ≤ i) (h1 : i < 2 ^ 63) (hd : ds[i.toNat]? = some d) (hv : isVar sc x = true := by kernel_rfl) (hs : PlainSub e₂ := by intro _ _; rfl) : Ev w k sc ρ .fresh (.Subscript (.Name x p₁) e₂ pos) d := fun A c s Q E R S q => by
 refine bc fun gG => ?_
 obtain ⟨v, l, o, m, vs, p, a⟩ := S.vals x _ hx
 obtain ⟨g1, g2, g3⟩ := isVar.kind S hv
 refine gG ?_; clear gG
 cases (show v = .ref (c.ad x) from o)
 refine Subscript_ (look S g1 l (hi A c s _ _ R S fun v₂ s₂ z₂ a₂ => ?_) g2 g3)
 refine a₂.cI fun t => ?_
 refine bc fun gG => ?_
 obtain ⟨v', l', o', m', vs', p', a'⟩ := (S.kps z₂).vals x _ hx
 obtain ⟨u, hu, au⟩ := a'.get hd
 refine gG ?_; clear gG
 exact tail_any p'.isList.typeIs PySem.slot_list_getitem.lookup (wpAny_getItem_list p'.isList h0 h1 (by rw [List.getElem?_toArray]; exact hu) (q u s₂ z₂ au)) (hs _ _)
section
variable {e : PySem.Expr} {K : Rho → Prop} {R : D → Prop}
theorem es_whileR {σ : Type} {body : List Stmt} (ρo : σ → Rho) (P : σ → Prop) (b : σ → Bool) (m : σ → Nat) (x₀ : σ) (h0 : ρ = ρo x₀) (hP : P x₀)
  (ht : ∀ x, P x → Ts w k sc (ρo x) e (b x)) (hb : ∀ x, P x → b x = true → Ex w k sc (ρo x) body (fun r => ∃ x', r = ρo x' ∧ P x' ∧ m x' < m x) R)
  (hK : ∀ x, P x → b x = false → K (ρo x)) : Es w k sc ρ (.While e body [] pos) K R := fun A c s Q E Rm S q r => by
 subst h0
 refine wpAny_While ?_
 refine codeAny_whileLoop (fun n s₁ => ∃ c₁ x, Ext c s c₁ s₁ ∧ St w sc c₁ s₁.heap (ρo x) ∧ P x ∧ m x = n) (fun n s₁ ⟨c₁, x, X, S₁, hx, hn⟩ => ?_) (m x₀) ⟨c, x₀, .refl c s, S, hP, rfl⟩
 rw [← X.env]
 refine ht x hx A c₁ s₁ _ _ Rm S₁ fun s₂ p => ?_
 have X₂ := X.trans (.kps p)
 cases hbx : b x with
 | true =>
  refine hb x hx hbx A c₁ s₂ _ _ Rm (S₁.kps p) (fun c' s' ρ' z S' e' => ?_) fun c' s' ρ' v d z S' a hr => r c' s' ρ' v d (X₂.trans z) S' a hr
  obtain ⟨x', e', hp, hm⟩ := e'
  exact ⟨_, hn ▸ hm, c', x', X₂.trans z, e' ▸ S', hp, rfl⟩
 | false => exact wpAny_pure (q c₁ s₂ _ X₂ (S₁.kps p) (hK x hx hbx))
end
theorem step_one {md : Md} {b : Bool} {r : D} {t elt : PySem.Expr} (T : Ts w k sc ρ t b) (he : Ev w k sc ρ md elt r) : (match (if b then some r else none : Option D) with
  | none => IfsT w k sc ρ [t] false
  | some r => IfsT w k sc ρ [t] true ∧ Ev w k sc ρ md elt r) := by
 cases b with
 | true => exact ⟨ifs_one T, he⟩
 | false => exact ifs_one T
end
noncomputable abbrev tt (op : BoolOp) : Bool := op == .And
noncomputable def left0 (ways : List (Nat × Nat)) (got : List Nat) : List (Nat × Nat) := ways.filter fun p => got.contains p.1 && (((p.1 : Int) != (p.2 : Int)) && tt .And)
noncomputable def live0 (got : List Nat) (b : Nat) : List Nat := got.filter fun v => (v : Int) != (b : Int)
noncomputable def headsOf (left : List (Nat × Nat)) (v : Nat) : List Nat := (left.filter fun p => (p.2 : Int) == (v : Int)).map (·.1)
noncomputable def alike (hs : List Nat) : Bool := hs == hs.map fun _ => hs.headD 0
noncomputable def readyOf (left : List (Nat × Nat)) (live : List Nat) : List (Nat × Nat) := live.filterMap fun v => if alike (headsOf left v) then some (v, (headsOf left v).headD 0) else none
noncomputable def merge (left : List (Nat × Nat)) (gone into : Nat) : List (Nat × Nat) := (((left.filter fun p => (p.2 : Int) != (gone : Int)).map fun p => (if (p.1 : Int) == (gone : Int) then into else p.1, p.2)).filter fun p => (p.1 : Int) != (p.2 : Int))
noncomputable def drop (live : List Nat) (gone : Nat) : List Nat := live.filter fun v => (v : Int) != (gone : Int)
noncomputable def shrink : Nat → List (Nat × Nat) → List Nat → Bool
 | 0, _, live => live == []
 | f + 1, left, live => if live == [] then true else match readyOf left live with
  | [] => false
  | p :: _ => shrink f (merge left p.1 p.2) (drop live p.1)
structure ShrinkOK (Inv : List (Nat × Nat) → List Nat → Prop) : Prop where
 heads : ∀ l v, Inv l v → ∀ x ∈ v, headsOf l x ≠ []
 len : ∀ l v, Inv l v → l.length ≤ 1000 ∧ v.length ≤ 1000
 step : ∀ l v, Inv l v → ∀ g i r, readyOf l v = (g, i) :: r → Inv (merge l g i) (drop v g)
theorem filterMap_if {α : Type} (p : α → Bool) (f : α → D) (l : List α) : l.filterMap (fun a => if p a then some (f a) else none) = (l.filter p).map f := by
 induction l with
 | nil => rfl
 | cons a l ih =>
  rw [List.filterMap_cons, List.filter_cons]
  split
  ·rename_i h; split at h
   ·cases h
   ·rename_i h'; rw [if_neg h', ih]
  ·rename_i h; split at h
   ·rename_i h'; cases h; rw [if_pos h', List.map_cons, ih]
   ·cases h
theorem goR_ok {ways : List (Nat × Nat)} (hw : ∀ p ∈ ways, p.1 < 6 ∧ p.2 < 6) (wo : Int) : ∀ f got k, GotOK got → GotOK (goR ways wo f got k)
 | 0, _, _, h => h
 | f + 1, got, k, h => by
  unfold goR
  split
  ·exact goR_ok hw wo f _ _ (h.row wo _ ways fun p m => (hw p m).2).1
  ·exact h
theorem reachF_ok {ways : List (Nat × Nat)} (hw : ∀ p ∈ ways, p.1 < 6 ∧ p.2 < 6) {b : Nat} (hb : b < 6) (wo : Int) : GotOK (reachF ways b wo) := by
 unfold reachF
 split
 ·exact ⟨.nil, fun x m => by cases m⟩
 ·exact goR_ok hw wo _ _ _ ⟨by simp, by simpa using hb⟩
noncomputable def rhoK (ways : List (Nat × Nat)) (b : Nat) (got : List Nat) (left live ready v heads gone into : LV) : Rho := [(sz "ways", .dat false (dWays ways)), (sz "begin", .dat false (.int b)), (sz "got", .dat true (dNs got)), (sz "left", left), (sz "live", live), (sz "ready", ready), (sz "v", v), (sz "heads", heads), (sz "gone", gone), (sz "into", into)]
theorem shrinks_ok (w : World) (k : Nat) (ways : List (Nat × Nat)) (b : Nat) (hw : ∀ p ∈ ways, p.1 < 6 ∧ p.2 < 6) (hb : b < 6) (hl : ways.length ≤ 1000) {Inv : List (Nat × Nat) → List Nat → Prop} (K : ShrinkOK Inv) (I₀ : Inv (left0 ways (reachF ways b (-1))) (live0 (reachF ways b (-1)) b)) :
  FnOK w (k + 2) 380 [dWays ways, .int b] [] (.bool (shrink (live0 (reachF ways b (-1)) b).length (left0 ways (reachF ways b (-1))) (live0 (reachF ways b (-1)) b))) := by
 refine fn_ok (F_shrinks w) (hids := [sz "got", sz "left", sz "live", sz "ready", sz "v", sz "heads", sz "gone", sz "into"]) (B_shrinks w _ _) rfl (by decide +kernel) (by kernel_rfl) ?_
 obtain ⟨got, hgot⟩ : ∃ g, g = reachF ways b (-1) := ⟨_, rfl⟩
 rw [← hgot] at I₀ ⊢
 show Ex w (k + 1) (sc (st 84)) [(sz "ways", .dat false (dWays ways)), (sz "begin", .dat false (.int b)), (sz "got", .hid), (sz "left", .hid), (sz "live", .hid), (sz "ready", .hid), (sz "v", .hid), (sz "heads", .hid), (sz "gone", .hid), (sz "into", .hid)] (bo (st 84)) _ _
 conv in bo (st 84) => whnf
 have hr : FnOK w (k + 1) 360 [dWays ways, .int b, .int (-1)] [] (dNs got) := by rw [hgot]; exact reached_ok w k ways b (-1) hw hb hl
 refine ex_seq (es_assign (fr := true) (ev_call evv_glob (F_reached w) (evl_cons (ev_dat m0) (evl_cons (ev_dat m1) (evl_cons (ev_neg ev_int) evl_nil))) hr) u2) ?_
 refine ex_seq (es_comp (hrs := filterMap_if _ _ _) (fr := true) (m₁ := .free) (l := ways) (g := dPair) (out := fun p => if got.contains p.1 && (((p.1 : Int) != (p.2 : Int)) && tt .And) then some (dPair p) else none) [(sz "got", .dat true (dNs got))] [sz "a", sz "b"] (it_list (ev_dat m0)) (caps1 m2) (by kernel_rfl) (fun p hp => ?_) (by show _ ≤ 16777216; lia) u3 (by kernel_rfl)) ?_
 ·refine ⟨_, bd_pair (f₁ := false) (f₂ := false) (d₁ := .int p.1) (d₂ := .int p.2) u1 u2, .keep (.hide (.hide .nil)), ?_⟩
  exact step_one (ts_boolop (allT_and (ts_cmp (ev_dat m1) (ev_dat m0) cmp_inN) fun _ => allT_and (ts_cmp (ev_dat m1) (ev_dat m2) cmp_neI) fun _ => allT_nil)) (ev_tuple (md := .fresh) (evl_cons (ev_dat m1) (evl_cons (ev_dat m2) evl_nil)))
 have hgl : got.length ≤ 1000 := by
  have : (reachF ways b (-1)).length ≤ 6 := (reachF_ok hw hb (-1)).len
  rw [hgot]; lia
 refine ex_seq (es_comp (hrs := filterMap_if _ _ _) (fr := true) (m₁ := .fresh) (l := got) (g := dInt) (out := fun v => if (v : Int) != (b : Int) then some (dInt v) else none) [(sz "begin", .dat false (.int b))] [sz "v"] (it_list (ev_dat m2)) (caps1 m1) (by kernel_rfl) (fun p hp => ⟨_, bd_name (fr := false) u1, .keep (.hide .nil), step_one (ts_cmp (ev_dat m1) (ev_dat m0) cmp_neI) (ev_dat m1).up⟩) (by show _ ≤ 16777216; lia) u4 (by kernel_rfl)) ?_
 obtain ⟨res, hres⟩ : ∃ r, r = shrink (live0 got b).length (left0 ways got) (live0 got b) := ⟨_, rfl⟩
 rw [← hres]
 let ρw : List (Nat × Nat) × List Nat → Rho := fun z => rhoK ways b got (.dat true (dWays z.1)) (.dat true (dNs z.2)) .hid .hid .hid .hid .hid
 refine ex_cons (es_whileR (K := fun r => res = true ∧ ∃ r', r = r') (σ := List (Nat × Nat) × List Nat) ρw (fun z => Inv z.1 z.2 ∧ ∃ f, z.2.length ≤ f ∧ shrink f z.1 z.2 = res) (fun z => z.2 != []) (fun z => z.2.length) (left0 ways got, live0 got b) rfl ⟨I₀, _, Nat.le_refl _, hres.symm⟩ ?_ ?_ ?_) fun _ ⟨h, _⟩ => ?_
 ·rintro ⟨l, v⟩ ⟨I, _⟩
  exact ts_cmp (ev_dat m4) (ev_list (md := .fresh) evl_nil) (cmp_neD 1 (ok_nats v) (ok_nats []) (nen_nats v))
 ·rintro ⟨l, v⟩ ⟨I, f, hf, hs⟩ hb
  dsimp only at I hf hs hb
  obtain ⟨hl1, hl2⟩ := K.len l v I
  obtain ⟨f', rfl⟩ : ∃ t, f = t + 1 := ⟨f - 1, by cases v with
   | nil => cases hb
   | cons a v => simp at hf; lia⟩
  have hv : (v == []) = false := by cases v with
   | nil => cases hb
   | cons => rfl
  rw [shrink, if_neg (by rw [hv]; decide)] at hs
  refine ex_seq (es_new (ds := []) (md := .fresh) evl_nil u5) ?_
  let ρr : Nat → Rho := fun i => rhoK ways b got (.dat true (dWays l)) (.dat true (dNs v)) (.own false ((readyOf l (v.take i)).map dPair)) .hid .hid .hid .hid
  refine ex_cons (es_for (K := fun r => r = ρr v.length) ρr (it_list (ev_dat m4)) (by show Weak (ρr 0) (ρr 0); exact .refl _) (fun i d hd => ?_) ?_) fun _ e => e ▸ ?_
  ·rw [List.getElem?_map] at hd
   obtain ⟨x, hx, rfl⟩ := Option.map_eq_some_iff.mp hd
   have hxv : x ∈ v := List.mem_of_getElem? hx
   have hne := K.heads l v I x hxv
   obtain ⟨hs', hhs⟩ : ∃ y, y = headsOf l x := ⟨_, rfl⟩
   have hhl : hs'.length ≤ 1000 := by rw [hhs]; unfold headsOf; rw [List.length_map]; exact Nat.le_trans (List.length_filter_le _ _) hl1
   have ht : readyOf l (v.take (i + 1)) = readyOf l (v.take i) ++ (if alike hs' then [(x, hs'.headD 0)] else []) := by
    unfold readyOf
    rw [List.take_add_one, hx, Option.toList_some, List.filterMap_append, hhs]
    congr 1
    show [x].filterMap _ = _
    rw [List.filterMap_cons]
    split <;> rename_i h <;> split at h
    ·cases h
    ·rename_i h'; rw [if_neg h']; rfl
    ·rename_i h'; cases h; rw [if_pos h']; rfl
    ·cases h
   have hrl : (readyOf l (v.take i)).length ≤ 1000 := by unfold readyOf; exact Nat.le_trans (List.length_filterMap_le _ _) (by rw [List.length_take]; lia)
   refine ⟨_, bd_name (fr := false) u6, ?_⟩
   refine ex_seq (es_assignV (fr := true) (ev_comp (md := .fresh) (m₁ := .fresh) (l := l) (g := dPair) (out := fun p => if (p.2 : Int) == (x : Int) then some (dInt p.1) else none) [(sz "v", .dat false (dInt x))] [sz "a", sz "b"] (it_list (ev_dat m3)) (caps1 m6) (by kernel_rfl) (fun p hp => ⟨_, bd_pair (f₁ := false) (f₂ := false) (d₁ := .int p.1) (d₂ := .int p.2) u1 u2, .keep (.hide (.hide .nil)), step_one (ts_cmp (ev_dat m2) (ev_dat m0) cmp_eqI) (ev_dat m1).up⟩) ?_) u7) ?_
   ·show _ ≤ 16777216; lia
   rw [filterMap_if, show (l.filter fun p => (p.2 : Int) == (x : Int)).map (fun p => dInt p.1) = hs'.map dInt by rw [hhs]; unfold headsOf; rw [List.map_map]; rfl]
   have hal : hs'.filterMap (fun _ => some (dInt (hs'.headD 0))) = (hs'.map fun _ => hs'.headD 0).map dInt := by rw [List.map_map, ← List.filterMap_eq_map]; rfl
   have hd0 : (hs'.map dInt)[(0 : Int).toNat]? = some (dInt (hs'.headD 0)) := by
    cases hs' with
    | nil => exact absurd hhs.symm hne
    | cons a t => rfl
   refine ex_cons (es_if (K := fun r => Weak r (ρr (i + 1))) (b := alike hs') (ts_cmp (ev_dat m7) (ev_comp (md := .fresh) (m₁ := .fresh) (l := hs') (g := dInt) (out := fun _ => some (dInt (hs'.headD 0))) [(sz "heads", .dat true (dNs hs'))] [sz "a"] (it_list (ev_dat m7)) (caps1 m7) (by kernel_rfl) (fun p hp => ⟨_, bd_name (fr := false) u1, .keep (.hide .nil), ifs_nil, (ev_sub (ev_dat m0) ev_int (sub_list (by lia) (by lia) hd0)).up⟩) ?_) ?_) (fun h => ?_) (fun h => ex_nil ?_)) fun _ e => ex_nil e
   ·show _ ≤ 16777216; lia
   ·rw [hal]
    refine cmp_eqD 1 (ok_nats hs') (ok_nats _) ?_
    unfold alike
    rw [beq_iff_eq]
    constructor
    ·intro e; exact congrArg dNs e
    ·intro e
     have e := D.lst.inj e
     have inj : ∀ a b : List Nat, a.map dInt = b.map dInt → a = b := fun a b e => by
      have := congrArg (List.map fun d : D => match d with | .int i => i.toNat | _ => 0) e
      rw [List.map_map, List.map_map] at this
      have k : ((fun d : D => match d with | .int i => i.toNat | _ => 0) ∘ dInt) = (id : Nat → Nat) := by funext n; simp [dInt]
      rw [k, List.map_id, List.map_id] at this; exact this
     exact inj _ _ e
   ·refine ex_seq (es_append (d := dPair (x, hs'.headD 0)) (ev_tuple (md := .fresh) (evl_cons (ev_dat m6) (evl_cons (ev_sub (ev_dat m7) ev_int (sub_list (by lia) (by lia) hd0)) evl_nil))) m5 u5 (by rw [List.length_map]; show _ ≤ 16777216; lia)) (ex_nil ?_)
    show Weak _ (rhoK ways b got (.dat true (dWays l)) (.dat true (dNs v)) (.own false ((readyOf l (v.take (i + 1))).map dPair)) .hid .hid .hid .hid)
    rw [ht, if_pos h, List.map_append]
    exact .keep (.keep (.keep (.keep (.keep (.keep (.hide (.hide (.keep (.keep .nil)))))))))
   ·show Weak _ (rhoK ways b got (.dat true (dWays l)) (.dat true (dNs v)) (.own false ((readyOf l (v.take (i + 1))).map dPair)) .hid .hid .hid .hid)
    rw [ht, if_neg (by rw [h]; decide), List.append_nil]
    exact .keep (.keep (.keep (.keep (.keep (.keep (.hide (.hide (.keep (.keep .nil)))))))))
  ·show ρr (v.map dInt).length = _
   rw [List.length_map]
  show Ex w (k + 1) (sc (st 84)) (rhoK ways b got (.dat true (dWays l)) (.dat true (dNs v)) (.own false ((readyOf l (v.take v.length)).map dPair)) .hid .hid .hid .hid) _ _ _
  rw [List.take_length]
  obtain ⟨rdy, hrdy⟩ : ∃ x, x = readyOf l v := ⟨_, rfl⟩
  rw [← hrdy] at hs ⊢
  refine ex_cons (es_if (K := fun r => rdy ≠ [] ∧ r = _) (b := rdy == []) (ts_cmp (ev_own m5) (ev_list (md := .fresh) evl_nil) (cmp_eqD 2 (by unfold D.ok; simp [dPair, D.ok]) rfl (by cases rdy <;> simp [dPair]))) (fun h => ?_) (fun h => ex_nil ⟨(by intro z; rw [z] at h; cases h), rfl⟩)) fun _ ⟨hne, e⟩ => e ▸ ?_
  ·have : rdy = [] := by cases rdy with
    | nil => rfl
    | cons => cases h
   rw [this] at hs
   exact ex_return ev_bool (by rw [← hs])
  obtain ⟨⟨g, into⟩, r, hr⟩ : ∃ p r, rdy = p :: r := by cases rdy with
   | nil => exact absurd rfl hne
   | cons p r => exact ⟨p, r, rfl⟩
  rw [hr] at hs ⊢
  rw [hr] at hrdy
  have hst := K.step l v I g into r hrdy.symm
  have hgv : g ∈ v := by
   have : (g, into) ∈ readyOf l v := by rw [← hrdy]; exact .head _
   unfold readyOf at this
   obtain ⟨x, hx, hy⟩ := List.mem_filterMap.mp this
   split at hy
   ·cases hy; exact hx
   ·cases hy
  have hdl : (drop v g).length < v.length := by
   unfold drop
   exact List.length_filter_lt_length_iff_exists.mpr ⟨g, hgv, by simp⟩
  refine ex_seq (es_pair (md := .fresh) (f₁ := false) (f₂ := false) (d₁ := dInt g) (d₂ := dInt into) (ev_ownItem m5 ev_int (by lia) (by lia) rfl) u8 u9) ?_
  obtain ⟨l2, hl2'⟩ : ∃ x, x = ((l.filter fun p => (p.2 : Int) != (g : Int)).map fun p : Nat × Nat => (if (p.1 : Int) == (g : Int) then into else p.1, p.2)) := ⟨_, rfl⟩
  have hl2l : l2.length ≤ 1000 := by rw [hl2', List.length_map]; exact Nat.le_trans (List.length_filter_le _ _) hl1
  have e2 : ((l.filter fun p => (p.2 : Int) != (g : Int)).map fun p : Nat × Nat => dPair (if (p.1 : Int) == (g : Int) then into else p.1, p.2)) = l2.map dPair := by rw [hl2', List.map_map]; rfl
  refine ex_seq (es_comp (hrs := (filterMap_if _ _ _).trans e2) (fr := true) (m₁ := .fresh) (l := l) (g := dPair) (out := fun p => if (p.2 : Int) != (g : Int) then some (dPair (if (p.1 : Int) == (g : Int) then into else p.1, p.2)) else none) [(sz "gone", .dat false (dInt g)), (sz "into", .dat false (dInt into))] [sz "a", sz "b"] (it_list (ev_dat m3)) (caps2 m8 m9) (by kernel_rfl) (fun p hp => ?_) (by show _ ≤ 16777216; lia) u3 (by kernel_rfl)) ?_
  ·refine ⟨_, bd_pair (f₁ := false) (f₂ := false) (d₁ := .int p.1) (d₂ := .int p.2) u2 u3, .keep (.keep (.hide (.hide .nil))), step_one (ts_cmp (ev_dat m3) (ev_dat m0) cmp_neI) ?_⟩
   have hif : ∀ {b : Bool} {x y : Nat}, (bif b then D.int x else D.int y) = .int ((if b then x else y : Nat) : Int) := fun {b x y} => by cases b <;> rfl
   exact ev_tuple (md := .fresh) (evl_cons (hif ▸ ev_ifexp (ts_cmp (ev_dat m2) (ev_dat m0) cmp_eqI) (fun _ => ev_dat m1) fun _ => ev_dat m2) (evl_cons (ev_dat m3) evl_nil))
  have hmg : merge l g into = l2.filter fun p => (p.1 : Int) != (p.2 : Int) := by rw [hl2']; rfl
  refine ex_seq (es_comp (hrs := (filterMap_if _ _ _).trans (congrArg (List.map dPair) hmg.symm)) (fr := true) (m₁ := .fresh) (l := l2) (g := dPair) (out := fun p => if (p.1 : Int) != (p.2 : Int) then some (dPair p) else none) [] [sz "a", sz "b"] (it_list (ev_dat m3)) (fun p q => by cases q) (by kernel_rfl) (fun p hp => ⟨_, bd_pair (f₁ := false) (f₂ := false) (d₁ := .int p.1) (d₂ := .int p.2) u0 u1, .hide (.hide .nil), step_one (ts_cmp (ev_dat m0) (ev_dat m1) cmp_neI) (ev_tuple (md := .fresh) (evl_cons (ev_dat m0) (evl_cons (ev_dat m1) evl_nil)))⟩) (by show _ ≤ 16777216; lia) u3 (by kernel_rfl)) ?_
  refine ex_seq (es_comp (hrs := filterMap_if _ _ _) (fr := true) (m₁ := .fresh) (l := v) (g := dInt) (out := fun x => if (x : Int) != (g : Int) then some (dInt x) else none) [(sz "gone", .dat false (dInt g))] [sz "v"] (it_list (ev_dat m4)) (caps1 m8) (by kernel_rfl) (fun p hp => ⟨_, bd_name (fr := false) u1, .keep (.hide .nil), step_one (ts_cmp (ev_dat m1) (ev_dat m0) cmp_neI) (ev_dat m1).up⟩) (by show _ ≤ 16777216; lia) u4 (by kernel_rfl)) ?_
  refine Ex.weak (ρ' := ρw (merge l g into, drop v g)) (ex_nil ⟨(merge l g into, drop v g), rfl, ⟨hst, f', ?_, hs⟩, hdl⟩) ?_
  ·show (drop v g).length ≤ f'; lia
  ·exact .keep (.keep (.keep (.keep (.keep (.hide (.keep (.keep (.hide (.hide .nil)))))))))
 ·rintro ⟨l, v⟩ ⟨I, f, hf, hs⟩ hb
  dsimp only at I hf hs hb
  have : v = [] := by cases v with
   | nil => rfl
   | cons => cases hb
  subst this
  refine ⟨?_, _, rfl⟩
  rw [← hs]
  cases f <;> rfl
 ·rw [h]
  exact ex_return ev_bool rfl
section
variable {w : World} {k : Nat} {sc : Scope} {ρ ρ' : Rho} {md m₁ : Md} {d : D} {e e₁ : PySem.Expr} {pos p₁ : Pos} {ds : List D} {K : Rho → Prop} {R : D → Prop} {s : Shared}
noncomputable def insF (x : Int) (y : Value) (xs : Array Value) : Array Value := have k := if x < 0 then (x + (xs.size : Int)).toNat else min x.toNat xs.size; (xs.extract 0 k).push y ++ xs.extract k
theorem insert_raw {A : Around} {E : Value → Shared → Prop} {Q : Value → Shared → Prop} {l : Addr} {its : Array Value} {x : Int} {t : Tok} {y : Value} {n : Nat} (ho : s.heap.get? l = some { cls := .type "list", dict := none, data := .seq its n, slots := #[] }) (hf : Builtin.List.listFitsIndex x = true) (hz : its.size ≤ sizeLine)
  (h : Q .none { s with heap := s.heap.update l (Obj.mapSeq (insF x y)) }) : wpAny (model pr w) A (call (.builtin "list.insert") [.ref l, .int x t, y]) Q E s :=
 call_meets PySem.F.slot_list_insert ⟨_, ho, rfl⟩ PySem.F.entry_list_insert (PySem.F.args_list_insert_3 _ _ _) (PySem.AutoSeq1.list_insert_list_int_val_1 l its n x t y (by simp [hf]) hz) ⟨ho, h⟩
theorem wpAny_insert {A : Around} {E : Value → Shared → Prop} {Q : Value → Shared → Prop} {l : Addr} {vs : List Value} {p : Nat} {t : Tok} {y : Value} (hl : s.heap.PlainList l vs.toArray) (hp : p ≤ vs.length) (hz : vs.length ≤ 1000)
  (h : ∀ h', h'.PlainList l (vs.take p ++ y :: vs.drop p).toArray → Heap.SameBut l s.heap h' → Q .none { s with heap := h' }) : wpAny (model pr w) A (call (.builtin "list.insert") [.ref l, .int p t, y]) Q E s := by
 obtain ⟨n, ho⟩ := hl
 have hf : Builtin.List.listFitsIndex (p : Int) = true := by
  unfold Builtin.List.listFitsIndex
  have : (p : Int) < 9223372036854775808 := by lia
  simp
  lia
 refine insert_raw ho hf (by rw [List.size_toArray]; show _ ≤ 16777216; lia) (h _ ?_ (Heap.SameBut.update ..))
 have U := PySem.IsL.update (n := n) ho (insF (p : Int) y)
 have e : insF (p : Int) y vs.toArray = (vs.take p ++ y :: vs.drop p).toArray := by
  unfold insF
  dsimp only
  rw [if_neg (by lia), Int.toNat_natCast, List.size_toArray, Nat.min_eq_left hp]
  exact kl_ins_eq vs p y
 rw [← e]
 exact ⟨_, U⟩
end
noncomputable def insR (l : List Str) (x : Str) : List Str := l.take (posAfter l x) ++ x :: l.drop (posAfter l x)
theorem bs_le (p : Nat → Bool) : ∀ f lo hi, lo ≤ hi → bs p f lo hi ≤ hi
 | 0, lo, hi, h => h
 | f + 1, lo, hi, h => by
  unfold bs
  split
  ·split
   ·exact bs_le p f _ _ (by lia)
   ·exact Nat.le_trans (bs_le p f _ _ (by lia)) (by lia)
  ·exact h
theorem posAfter_le (l : List Str) (x : Str) : posAfter l x ≤ l.length := bs_le _ _ _ _ (Nat.zero_le _)
theorem insort_call (w : World) (k : Nat) {A : Around} {s : Shared} {Q : Value → Shared → Prop} {E : Value → Shared → Prop} {b : Addr} {vs : List Value} {l : List Str} {x : Str} {t : Tok} (Rm : Room A (k + 2)) (S : SaysT w s.heap) (hb : s.heap.PlainList b vs.toArray) (hbT : b ≠ TF) (ha : AtL s.heap anyN vs (l.map .str)) (hl : l.length ≤ 100)
  (q : ∀ s' us, (∃ h t, s' = { s with heap := h, toks := t }) → KpX (fun a => a = b) s.heap s'.heap → (∀ N, TabOK s.heap N → TabOK s'.heap (fun a => N a ∨ s.heap.get? a = none)) → s'.heap.PlainList b us.toArray → AtL s'.heap anyN us ((insR l x).map .str) → Q .none s') :
  wpAny (model pr w) A (call (.ref 47) [.ref b, .str x t]) Q E s := by
 have F := F_insort w
 obtain ⟨o, ho, hd⟩ := F.obj
 obtain ⟨c, oc, ws, tq, ec, nc, hc, hcd, hq⟩ := F.code
 refine wpAny_call ?_
 refine codeAny_call_function Rm.lim (S.get _ _ F.ne (fun z => z) ho) hd F.co F.gen F.body ⟨c, oc, ws, tq, ec, S.get _ _ nc (fun z => z) hc, hcd, hq⟩ ?_
 refine kp_binds (K := [(39, o39), (40, o40 w.params)]) (binds := [Str.ofString "a", Str.ofString "x", Str.ofString "lo", Str.ofString "hi", Str.ofString "key"].zip [.ref b, .str x t, .int 0 291, .none, .none]) (frag_in S (as := [39, 40]) rfl (by kernel_rfl) rfl) (fun S => by kernel_rfl) _ A.in1 _ _ ?_
 rw [F.clo, F.glo, F.blt]
 refine wpAny_newFunctionEnv (fun y m => ?_) (fun y m => ?_) (fun h' hns hsb => ?_) F.kind
 ·have : ((sc (st 2)).names.all fun y => y.2 != .cell) = true := by kernel_rfl
  have := List.all_eq_true.mp this y m
  simpa using this
 ·simp only [List.zip_cons_cons, List.zip_nil_right, List.mem_cons, List.not_mem_nil, or_false] at m
  rcases m with rfl | rfl | rfl | rfl | rfl <;> kernel_rfl
 obtain ⟨L, hL⟩ : ∃ L, L = s.heap.objs.size := ⟨_, rfl⟩
 rw [← hL] at hns hsb ⊢
 have L0 : s.heap.get? L = none := by rw [hL]; exact get_end _
 have old : ∀ a o, s.heap.get? a = some o → h'.get? a = some o := fun a o e => (hsb.2 a (by exact (ne_oo L0 e).symm)).trans (Heap.get?_push_of_some _ e)
 have k₁ : Kp s.heap h' := .of old
 have neT : L ≠ TF := by exact ne_TF S L0
 have nL : ∀ a o, s.heap.get? a = some o → a ≠ L := fun a o e => by exact (ne_oo L0 e).symm
 refine ⟨says_lim (Kp.trans S k₁), codeAny_func ?_⟩
 obtain ⟨env, henv⟩ : ∃ env, env = newEnv (fdO o47).scope L mainGlobals [] ((fdO o47).qualname ++ Str.ofString ".<locals>.") (some 47) (fdO o47).code none builtinsNs := ⟨_, rfl⟩
 let m0' : Str → Option Value := fun y => ([Str.ofString "a", Str.ofString "x", Str.ofString "lo", Str.ofString "hi", Str.ofString "key"].zip [Value.ref b, .str x t, .int 0 291, .none, .none]).reverse.lookup y
 let cx : Cx := { env := env, h₀ := s.heap, f := m0', ad := fun _ => 0, mu := fun a => a = L, M := fun _ => False, F := fun a => s.heap.get? a = none, hid := fun _ => False, lk := fun _ => False }
 have hk : ∀ y, cx.env.kindOf y = (sc (st 2)).names.lookup y := fun y => by show env.scope.names.lookup y = _; rw [henv]; rfl
 have noc : ∀ y, (sc (st 2)).names.lookup y ≠ some .cell ∧ (sc (st 2)).names.lookup y ≠ some .free := fun y => by
  have h1 : ((sc (st 2)).names.all fun y => y.2 != .cell && y.2 != .free) = true := by kernel_rfl
  constructor <;> intro e <;> have := List.all_eq_true.mp h1 _ (lookup_mem' e) <;> simp at this
 have hfree : ∀ b o, b ≠ TF → s.heap.get? b = some o → cx.N .free b := fun b o ne e => ⟨ne, fun z => by
  rcases z with z | z | z
  ·exact nL b o e z
  ·exact z
  ·exact z⟩
 let dA : D := .lst (l.map .str)
 let ρ₀ : D → Rho := fun lo => [(Str.ofString "a", .val (.ref b) dA), (Str.ofString "x", .dat false (.str x)), (Str.ofString "lo", .dat false lo), (Str.ofString "hi", .dat false .none), (Str.ofString "key", .dat false .none)]
 have St₁ : St w (sc (st 2)) cx h' (ρ₀ (.int 0)) := by
  refine ⟨S, k₁.to, fun b z => z.elim, fun a e => e, by show env.scope = _; rw [henv]; rfl, by kernel_rfl, by show env.globals = _; rw [henv]; rfl, by show env.builtins = _; rw [henv]; rfl, by show env.locals = L; rw [henv]; rfl, fun x a _ e _ => ?_, ?_, ⟨⟨_, by show h'.Ns env.locals _; rw [henv]; exact hns, fun x e => rfl⟩, fun x e => ?_, fun x y a e e' => ?_⟩, (by show [Str.ofString "a", Str.ofString "x", Str.ofString "lo", Str.ofString "hi", Str.ofString "key"].Nodup; decide), fun x' l' m => ?_, fun x y sh sh' d1 d2 m => ?_, fun a z => z.elim, fun a z => z.elim, fun N z => (k₁.tk N z).here.weak fun a ne n => ⟨n.1, ?_⟩, fun z => ?_⟩
  ·rw [hk] at e; exact absurd e (noc _).1
  ·intro a ea
   have ea : a = L := ea
   rw [ea]
   obtain ⟨o, _, _, e, _⟩ := hns
   exact ⟨neT, ⟨o, e⟩, .inl L0⟩
  ·rcases e with e | e
   ·rw [hk] at e; exact absurd e (noc _).1
   ·rw [hk] at e; exact absurd e (noc _).2
  ·have e1 : env.cells.lookup x = some a := e
   rw [henv] at e1; cases e1
  ·simp only [ρ₀, List.mem_cons, List.not_mem_nil, or_false, Prod.mk.injEq] at m
   rcases m with ⟨rfl, rfl⟩ | ⟨rfl, rfl⟩ | ⟨rfl, rfl⟩ | ⟨rfl, rfl⟩ | ⟨rfl, rfl⟩
   ·have hA : At s.heap anyN (.ref b) dA := .lst hbT hb.isList ha
    exact ⟨rfl, hA.here.map fun b o n e => ⟨old b o e, hfree b o n.1 e⟩⟩
   ·exact ⟨_, rfl, .str _ _⟩
   ·exact ⟨_, rfl, .int _ _⟩
   ·exact ⟨_, rfl, .none⟩
   ·exact ⟨_, rfl, .none⟩
  ·simp only [ρ₀, List.mem_cons, List.not_mem_nil, or_false, Prod.mk.injEq] at m
   rcases m with ⟨_, m⟩ | ⟨_, m⟩ | ⟨_, m⟩ | ⟨_, m⟩ | ⟨_, m⟩ <;> cases m
  ·obtain ⟨_, o, e, ws, _, d, _⟩ := n
   rintro (q | q | q)
   ·have q : a = L := q
    subst q
    obtain ⟨o', es, ep, e', d', _⟩ := hns
    rw [e] at e'; cases e'; rw [d] at d'; cases d'
   ·exact q
   ·exact q
  ·have : isFr (sc (st 2)) = false := by kernel_rfl
   rw [this] at z; cases z
 rw [← henv]
 conv in bo (st 2) => whnf
 refine wpAny_execs_cons ((es_if (k := k + 1) (K := fun r => r = ρ₀ (.int (posAfter l x : Nat))) (R := fun _ => False) (ts_cmp (ev_dat m4) ev_none cmp_isN) (fun _ => ex_seq (es_assign (fr := false) (ev_call evv_glob (F_bright w) (evl_cons (ev_val m0) (evl_cons (ev_dat m1) (evl_cons (ev_dat m2) (evl_cons (ev_dat m3) evl_nil)))) (bright_ok w k l x (by lia))) u2) (ex_nil rfl)) (fun h => by cases h)) (A.deeper env) cx { s with heap := h', toks := s.toks + 5 } _ _ (Rm.deeper env) St₁ (fun c₁ s₁ ρ₁ X S₁ e => ?_) (fun _ _ _ _ _ _ _ _ f => f.elim))
 subst e
 have hbL : b ≠ L := nL b _ hb.choose_spec
 have pb₁ : s₁.heap.PlainList b vs.toArray := hb.at fun o e => X.kp.get b o hbT hbL (old b o e)
 rw [show env = c₁.env from X.env.symm]
 refine wpAny_execs_cons (wpAny_Expr ?_ (by show (c₁.env.scope.kind == ScopeKind.module && _) = false; rw [S₁.scp, S₁.fn]; rfl) rfl)
 refine MethodCall_ (pl := do return (← importBound (.Name (Str.ofString "a") _) c₁.env).getD true) ((evv_val m0) (A.deeper c₁.env) c₁ s₁ _ _ (Rm.deeper c₁.env) S₁ ?_) rfl
 obtain ⟨nb, hob⟩ := pb₁
 refine noLine hob rfl rfl PySem.F.slot_list_insert PySem.F.type_list_insert ?_
 refine callWith_method1 ?_ (starEach_plain rfl) (by rw [starEach_plain rfl]; rfl)
 refine wpAny_items_cons ((ev_dat m2 : Ev w (k + 1) (sc (st 2)) (ρ₀ (.int (posAfter l x : Nat))) _ _ _) (A.deeper c₁.env) c₁ s₁ _ _ (Rm.deeper c₁.env) S₁ fun vi s₂ z₂ a₂ => wpAny_items_cons ((ev_dat m1 : Ev w (k + 1) (sc (st 2)) (ρ₀ (.int (posAfter l x : Nat))) _ _ _) (A.deeper c₁.env) c₁ s₂ _ _ (Rm.deeper c₁.env) (S₁.kps z₂) fun v s₃ z₃ a₃ => wpAny_items_nil ?_) (starEach_plain rfl)) (starEach_plain rfl)
 have Z := z₂.trans z₃
 have pb : s₃.heap.PlainList b vs.toArray := (show s₁.heap.PlainList b vs.toArray from ⟨nb, hob⟩).at fun o e => Z.kp.get b o hbT (fun z => z) e
 refine a₂.cI fun ti => ?_
 have a₃' : ∃ t', v = .str x t' := by cases a₃; exact ⟨_, rfl⟩
 obtain ⟨t', rfl⟩ := a₃'
 have hvl : vs.length = l.length := by have := ha.length; simpa using this
 refine wpAny_insert pb (by rw [hvl]; exact posAfter_le l x) (by lia) fun h₄ pl sb => ?_
 obtain ⟨hX, tX, eX⟩ := X.sh
 obtain ⟨hZ, tZ, eZ, _⟩ := id Z
 have ncb : ¬ IsCode { cls := .type "list", data := .seq vs.toArray nb } := noFields fun _ z => by cases z
 refine wpAny_execs_nil (q { s₃ with heap := h₄ } _ ?_ ?_ ?_ pl ?_)
 ·exact ⟨h₄, s₃.toks, by rw [eZ, eX]⟩
 ·refine ⟨fun a o ne nb' e => (sb.2 a nb').trans (Z.kp.get a o ne (fun z => z) (X.kp.get a o ne (nL a o e) (old a o e))), fun o vs' e d => ?_⟩
  obtain ⟨mo, e'⟩ := X.kp.tab o vs' (old _ _ e) d
  obtain ⟨mo', e''⟩ := Z.kp.tab _ _ e' rfl
  exact ⟨mo ++ mo', by rw [sb.2 TF (Ne.symm hbT), e'', Array.append_assoc]⟩
 ·intro N z
  have hh : c₁.h₀ = s.heap := X.h₀
  have t1 := S₁.tabO N (by rw [hh]; exact z)
  rw [hh] at t1
  have t2 := (Z.kp.tk _ t1).here
  refine (t2.map (fun o e => (sb.2 TF (Ne.symm hbT)).trans e) fun a o ne kc n e => ⟨(sb.2 a ?_).trans e, ?_⟩)
  ·rintro rfl
   obtain ⟨nb3, hob3⟩ := pb
   rw [hob3] at e; cases e
   exact noFields (fun _ z => by cases z) kc
  ·rcases n.1 with n | n
   ·exact n.1
   ·right
    cases e0 : s.heap.get? a with
    | none => rfl
    | some o => exact no n (X.kp.get a o ne (nL a o e0) (old a o e0))
 ·have : ((insR l x).map D.str) = (l.map D.str).take (posAfter l x) ++ .str x :: (l.map D.str).drop (posAfter l x) := by
   unfold insR; rw [List.map_append, List.map_take, List.map_cons, List.map_drop]
  rw [this]
  have fl : ∀ ds : List D, (∀ d ∈ ds, ∃ y, d = .str y) → ds.all D.flat = true := fun ds h => List.all_eq_true.mpr fun d m => by obtain ⟨y, rfl⟩ := h d m; rfl
  have hs : ∀ d ∈ l.map D.str, ∃ y, d = D.str y := fun d m => by obtain ⟨y, _, rfl⟩ := List.mem_map.mp m; exact ⟨y, rfl⟩
  have A4 : AtL h₄ anyN vs (l.map D.str) := ha.flatten (fl _ hs)
  exact (A4.take _).append (.cons (.str _ _) (A4.drop _))
theorem es_insort {w : World} {k : Nat} {sc : Scope} {ρ ρ' : Rho} {md : Md} {e : PySem.Expr} {x : Str} {l : List Str} {y : Str} {p₁ p₂ pc ps : Pos} {R : D → Prop} (h : Ev w (k + 2) sc ρ md e (.str y)) (hx : (x, .own false (l.map .str)) ∈ ρ) (u : Upd ρ x (.own false ((insR l y).map .str)) ρ') (hl : l.length ≤ 100) (hg : isGlob sc (sz "insort_right") = true := by kernel_rfl) (hv : isVar sc x = true := by kernel_rfl) (hp : plainE e = true := by rfl) :
  Es w (k + 2) sc ρ (.Expr (.Call (.Name (sz "insort_right") p₁) [.Name x p₂, e] [] pc) ps) (fun r => r = ρ') R := fun A c s Q E Rm S q r => by
 refine bc fun gG => ?_
 obtain ⟨h1, h2, h3⟩ := isVar.kind S hv
 obtain ⟨v, lk, o, m, vs, p, a⟩ := S.vals x _ hx
 refine gG ?_; clear gG
 cases (show v = .ref (c.ad x) from o)
 refine wpAny_Expr ?_ (by show (c.env.scope.kind == ScopeKind.module && _) = false; rw [S.scp, S.fn]; rfl) rfl
 refine bc fun gG => ?_
 obtain ⟨o', ho, hd⟩ := (F_insort w).obj
 refine gG ?_; clear gG
 refine wpAny_Call_Name_kw (evv_glob (v := .ref 47) hg (by kernel_rfl) A c s _ _ Rm S ?_)
 refine callWith_function (o := o') (fd := fdO o47) ?_
 rw [starEach_plain rfl]
 refine evalArgs_plain ?_
 have key : wpAny (model pr w) A (spliced (backTo pc (starEach [.Name x p₂, e] c.env))) (fun zs s' => (s'.heap.get? 47 = some o' ∧ o'.data = .func (fdO o47)) ∧ wpAny (model pr w) A (call (.ref 47) ([] ++ zs) []) (fun v s' => match v with
   | .ref _ => False
   | _ => Q .next s') E s') E s :=
  wpAny_items_cons (look S h1 lk (wpAny_items_cons (h A c s _ _ Rm S fun v s₁ z₁ a₁ => wpAny_items_nil (by
   have S₁ := S.kps z₁
   refine ⟨⟨S₁.base.get _ _ (F_insort w).ne (fun z => z) ho, hd⟩, ?_⟩
   refine bc fun gG => ?_
   obtain ⟨v', l', o', m', vs', p', a'⟩ := S₁.vals x _ hx
   refine gG ?_; clear gG
   refine a₁.cS fun t => ?_
   refine insort_call w k Rm S₁.base p' (S₁.mutO _ m'.1).1 (a'.weak fun _ n => n.1) hl fun s₂ us sh kx tk pl al => ?_
   refine bc fun gG => ?_
   obtain ⟨h₂, t₂, e₂⟩ := sh
   refine gG ?_; clear gG
   have fl : ((insR l y).map D.str).all D.flat = true := List.all_eq_true.mpr fun d m => by obtain ⟨z, _, rfl⟩ := List.mem_map.mp m; rfl
   have S₂ := S₁.putH hx u kx tk pl (al.flatten fl)
   have X : Ext c s c s₂ := (Ext.kps z₁).trans ⟨rfl, rfl, rfl, rfl, rfl, rfl, fun _ q => q, fun _ q => .inl q, kx.mono fun b _ e => e ▸ m'.1, h₂, t₂, e₂⟩
   exact q c s₂ ρ' X S₂ rfl)) (starEach_plain hp)) h2 h3) (starEach_plain rfl)
 rw [starEach_plain rfl] at key
 exact key
noncomputable def rowStep (row : List Str) (x : Str) : List Str := if !isSign x && (!row.contains x && tt .And) then insR row x else row
noncomputable def rowF (pieces : List Str) : List Str := pieces.foldl rowStep []
theorem insR_len (l : List Str) (x : Str) : (insR l x).length = l.length + 1 := by
 unfold insR
 have := posAfter_le l x
 rw [List.length_append, List.length_cons, List.length_take, List.length_drop]
 lia
theorem rowF_len (l : List Str) : (rowF l).length ≤ l.length := by
 have : ∀ (l row : List Str), (l.foldl rowStep row).length ≤ row.length + l.length := by
  intro l
  induction l with
  | nil => intro row; simp
  | cons x l ih =>
   intro row
   rw [List.foldl_cons]
   have h := ih (rowStep row x)
   have h2 : (rowStep row x).length ≤ row.length + 1 := by unfold rowStep; split <;> simp [insR_len]
   rw [List.length_cons]; lia
 have := this l []
 unfold rowF; simpa using this
theorem row_ok (w : World) (k : Nat) (pieces : List Str) (hp : pieces.length ≤ 100) : FnOK w (k + 3) 329 [dStrs pieces] [] (dStrs (rowF pieces)) := by
 refine fn_ok (F_row w) (hids := [sz "row", sz "piece"]) (B_row w _) rfl (by decide +kernel) (by kernel_rfl) ?_
 show Ex w (k + 2) (sc (st 75)) [(sz "pieces", .dat false (dStrs pieces)), (sz "row", .hid), (sz "piece", .hid)] (bo (st 75)) _ _
 conv in bo (st 75) => whnf
 let ρo : Nat → LV → Rho := fun i v => [(sz "pieces", .dat false (dStrs pieces)), (sz "row", .own false ((rowF (pieces.take i)).map .str)), (sz "piece", v)]
 refine ex_seq (es_new (ds := []) (md := .fresh) evl_nil u1) ?_
 refine ex_cons (es_for (K := fun r => r = ρo pieces.length .hid) (fun i => ρo i .hid) (it_list (ev_dat m0)) (by show Weak (ρo 0 .hid) (ρo 0 .hid); exact .refl _) (fun i d hd => ?_) ?_) fun _ e => e ▸ ?_
 ·rw [List.getElem?_map] at hd
  obtain ⟨x, hx, rfl⟩ := Option.map_eq_some_iff.mp hd
  have ht : rowF (pieces.take (i + 1)) = rowStep (rowF (pieces.take i)) x := by
   unfold rowF
   rw [List.take_add_one, hx, Option.toList_some, List.foldl_append]; rfl
  have hlen : (rowF (pieces.take i)).length ≤ 100 := by
   have := rowF_len (pieces.take i)
   rw [List.length_take] at this; lia
  refine ⟨_, bd_name (fr := false) u2, ?_⟩
  refine ex_cons (es_if (K := fun r => Weak r (ρo (i + 1) .hid)) (ts_boolop (allT_and (ts_notIn130 (ev_dat m2) evv_glob) fun _ => allT_and (ts_cmp (ev_dat m2) (ev_own m1) cmp_notInS) fun _ => allT_nil)) (fun h => ?_) (fun h => ex_nil ?_)) fun _ e => ex_nil e
  ·refine ex_seq (es_insort (ev_dat m2) m1 u1 hlen) (ex_nil ?_)
   show Weak _ [(sz "pieces", .dat false (dStrs pieces)), (sz "row", .own false ((rowF (pieces.take (i + 1))).map .str)), (sz "piece", .hid)]
   rw [ht]; unfold rowStep; rw [if_pos h]
   exact .keep (.keep (.hide .nil))
  ·show Weak _ [(sz "pieces", .dat false (dStrs pieces)), (sz "row", .own false ((rowF (pieces.take (i + 1))).map .str)), (sz "piece", .hid)]
   rw [ht]; unfold rowStep; rw [if_neg (by rw [h]; decide)]
   exact .keep (.keep (.hide .nil))
 ·show ρo (pieces.map D.str).length .hid = _
  rw [List.length_map]
 ·refine ex_return_own m1 ?_
  rw [List.take_length]; rfl
theorem bs_spec (p : Nat → Bool) : ∀ f lo hi, hi ≤ lo + f → lo ≤ hi → (∀ i j, lo ≤ i → i < j → j < hi → p j = true → p i = true) →
  lo ≤ bs p f lo hi ∧ bs p f lo hi ≤ hi ∧ (∀ i, lo ≤ i → i < bs p f lo hi → p i = true) ∧ (∀ i, bs p f lo hi ≤ i → i < hi → p i = false)
 | 0, lo, hi, h, h', _ => by
  have : lo = hi := by lia
  subst this
  unfold bs
  exact ⟨Nat.le_refl _, Nat.le_refl _, fun i h1 h2 => by lia, fun i h1 h2 => by lia⟩
 | f + 1, lo, hi, h, h', hm => by
  unfold bs
  split
  ·rename_i hlt
   split
   ·rename_i hp
    obtain ⟨a, b, c, d⟩ := bs_spec p f ((lo + hi) / 2 + 1) hi (by lia) (by lia) fun i j h1 h2 h3 => hm i j (by lia) h2 h3
    refine ⟨by lia, b, fun i h1 h2 => ?_, d⟩
    by_cases hi' : i ≤ (lo + hi) / 2
    ·rcases Nat.lt_or_eq_of_le hi' with hi' | rfl
     ·exact hm i _ h1 hi' (by lia) hp
     ·exact hp
    ·exact c i (by lia) h2
   ·rename_i hp
    obtain ⟨a, b, c, d⟩ := bs_spec p f lo ((lo + hi) / 2) (by lia) (by lia) fun i j h1 h2 h3 => hm i j h1 h2 (by lia)
    refine ⟨a, by lia, c, fun i h1 h2 => ?_⟩
    by_cases hi' : i < (lo + hi) / 2
    ·exact d i h1 hi'
    ·cases hpi : p i with
     | false => rfl
     | true =>
      exfalso
      apply hp
      rcases Nat.lt_or_eq_of_le (Nat.le_of_not_lt hi') with q | q
      ·exact hm _ i (by lia) q h2 hpi
      ·rw [q]; exact hpi
  ·have : lo = hi := by lia
   subst this
   exact ⟨Nat.le_refl _, Nat.le_refl _, fun i h1 h2 => by lia, fun i h1 h2 => by lia⟩
noncomputable abbrev ltS (a b : Str) : Prop := a.cps.toList < b.cps.toList
noncomputable def Rising (l : List Str) : Prop := l.Pairwise ltS
theorem ltS_trans {a b c : Str} (h : ltS a b) (h' : ltS b c) : ltS a c := List.lt_trans h h'
theorem ltS_irrefl (a : Str) : ¬ ltS a a := List.lt_irrefl _
theorem ltS_tri (a b : Str) : ltS a b ∨ a = b ∨ ltS b a := by
 by_cases h : ltS a b
 ·exact .inl h
 ·by_cases h' : ltS b a
  ·exact .inr (.inr h')
  ·right; left
   have e : a.cps.toList = b.cps.toList := List.le_antisymm (List.not_lt.mp h') (List.not_lt.mp h)
   obtain ⟨⟨a⟩⟩ := a; obtain ⟨⟨b⟩⟩ := b
   simp only at e; subst e; rfl
theorem rising_get {l : List Str} (h : Rising l) {i j : Nat} (hij : i < j) (hj : j < l.length) : ltS (l.getD i ⟨#[]⟩) (l.getD j ⟨#[]⟩) := by
 rw [List.getD_eq_getElem?_getD, List.getD_eq_getElem?_getD, List.getElem?_eq_getElem hj, List.getElem?_eq_getElem (by lia : i < l.length)]
 exact List.pairwise_iff_getElem.mp h i j (by lia) hj hij
theorem posIn_spec {l : List Str} (h : Rising l) (x : Str) : posIn l x ≤ l.length ∧ (∀ i, i < posIn l x → ltS (l.getD i ⟨#[]⟩) x) ∧ (∀ i, posIn l x ≤ i → i < l.length → ¬ ltS (l.getD i ⟨#[]⟩) x) := by
 obtain ⟨a, b, c, d⟩ := bs_spec (ltAt l x) l.length 0 l.length (by lia) (by lia) (fun i j _ h2 h3 hp => by
  unfold ltAt at hp ⊢
  simp only [decide_eq_true_eq] at hp ⊢
  exact ltS_trans (rising_get h h2 h3) hp)
 refine ⟨b, fun i hi => ?_, fun i hi hl => ?_⟩
 ·have := c i (by lia) hi
  unfold ltAt at this
  exact of_decide_eq_true this
 ·have := d i hi hl
  unfold ltAt at this
  exact of_decide_eq_false this
theorem posIn_get {l : List Str} (h : Rising l) {x : Str} (hx : x ∈ l) : posIn l x < l.length ∧ l.getD (posIn l x) ⟨#[]⟩ = x := by
 obtain ⟨a, b, c⟩ := posIn_spec h x
 obtain ⟨i, hi, rfl⟩ := List.getElem_of_mem hx
 have e : l.getD i ⟨#[]⟩ = l[i] := by rw [List.getD_eq_getElem?_getD, List.getElem?_eq_getElem hi]; rfl
 have h1 : posIn l l[i] ≤ i := by
  refine Nat.le_of_not_lt fun q => ?_
  have := b i q
  rw [e] at this
  exact ltS_irrefl _ this
 have h2 : ¬ posIn l l[i] < i := fun q => by
  have h3 := rising_get h q hi
  rw [e] at h3
  exact c _ (Nat.le_refl _) (by lia) h3
 have h3 : posIn l l[i] = i := by lia
 rw [h3]
 exact ⟨hi, e⟩
theorem posAfter_spec {l : List Str} (h : Rising l) (x : Str) : posAfter l x ≤ l.length ∧ (∀ i, i < posAfter l x → ¬ ltS x (l.getD i ⟨#[]⟩)) ∧ (∀ i, posAfter l x ≤ i → i < l.length → ltS x (l.getD i ⟨#[]⟩)) := by
 obtain ⟨a, b, c, d⟩ := bs_spec (geAt l x) l.length 0 l.length (by lia) (by lia) (fun i j _ h2 h3 hp => by
  unfold geAt at hp ⊢
  simp only [Bool.not_eq_true', decide_eq_false_iff_not] at hp ⊢
  exact fun q => hp (ltS_trans q (rising_get h h2 h3)))
 refine ⟨b, fun i hi => ?_, fun i hi hl => ?_⟩
 ·have := c i (by lia) hi
  unfold geAt at this
  simp only [Bool.not_eq_true', decide_eq_false_iff_not] at this
  exact this
 ·have := d i hi hl
  unfold geAt at this
  simp only [Bool.not_eq_false', decide_eq_true_eq] at this
  exact this
theorem mem_insR {l : List Str} {x y : Str} : y ∈ insR l x ↔ y = x ∨ y ∈ l := by
 unfold insR
 rw [List.mem_append, List.mem_cons]
 have h : y ∈ l ↔ y ∈ l.take (posAfter l x) ∨ y ∈ l.drop (posAfter l x) := by
  rw [← List.mem_append, List.take_append_drop]
 rw [h]
 constructor
 ·rintro (h | h | h)
  ·exact .inr (.inl h)
  ·exact .inl h
  ·exact .inr (.inr h)
 ·rintro (h | h | h)
  ·exact .inr (.inl h)
  ·exact .inl h
  ·exact .inr (.inr h)
theorem insR_rising {l : List Str} (h : Rising l) {x : Str} (hx : x ∉ l) : Rising (insR l x) := by
 obtain ⟨a, b, c⟩ := posAfter_spec h x
 have get : ∀ i (hi : i < l.length), l.getD i ⟨#[]⟩ = l[i] := fun i hi => by rw [List.getD_eq_getElem?_getD, List.getElem?_eq_getElem hi]; rfl
 unfold insR Rising
 rw [List.pairwise_append]
 refine ⟨h.sublist (List.take_sublist _ _), ?_, fun y hy z hz => ?_⟩
 ·rw [List.pairwise_cons]
  refine ⟨fun z hz => ?_, h.sublist (List.drop_sublist _ _)⟩
  obtain ⟨i, hi, rfl⟩ := List.getElem_of_mem hz
  rw [List.length_drop] at hi
  rw [List.getElem_drop]
  have := c (posAfter l x + i) (by lia) (by lia)
  rwa [get _ (by lia)] at this
 ·obtain ⟨i, hi, rfl⟩ := List.getElem_of_mem hy
  rw [List.length_take] at hi
  rw [List.getElem_take]
  have h1 : ltS l[i] x := by
   have := b i (by lia)
   rw [get i (by lia)] at this
   rcases ltS_tri l[i] x with q | q | q
   ·exact q
   ·exact absurd (q ▸ List.getElem_mem (by lia)) hx
   ·exact absurd q this
  rcases List.mem_cons.mp hz with rfl | hz
  ·exact h1
  ·obtain ⟨j, hj, rfl⟩ := List.getElem_of_mem hz
   rw [List.length_drop] at hj
   rw [List.getElem_drop]
   have := c (posAfter l x + j) (by lia) (by lia)
   rw [get _ (by lia)] at this
   exact ltS_trans h1 this
theorem rowF_rising (pieces : List Str) : Rising (rowF pieces) ∧ ∀ y, y ∈ rowF pieces ↔ y ∈ pieces ∧ isSign y = false := by
 have : ∀ (l row : List Str), Rising row → Rising (l.foldl rowStep row) ∧ ∀ y, y ∈ l.foldl rowStep row ↔ y ∈ row ∨ (y ∈ l ∧ isSign y = false) := by
  intro l
  induction l with
  | nil => intro row h; exact ⟨h, fun y => by simp⟩
  | cons x l ih =>
   intro row h
   rw [List.foldl_cons]
   have hs : Rising (rowStep row x) ∧ ∀ y, y ∈ rowStep row x ↔ y ∈ row ∨ (y = x ∧ isSign x = false) := by
    unfold rowStep
    split
    ·rename_i q
     simp only [Bool.and_eq_true, Bool.not_eq_true'] at q
     have hx : x ∉ row := fun m => by rw [List.contains_iff_mem.mpr m] at q; exact absurd q.2.1 (by decide)
     refine ⟨insR_rising h hx, fun y => ?_⟩
     rw [mem_insR]
     constructor
     ·rintro (e | e)
      ·exact .inr ⟨e, q.1⟩
      ·exact .inl e
     ·rintro (e | e)
      ·exact .inr e
      ·exact .inl e.1
    ·rename_i q
     refine ⟨h, fun y => ⟨.inl, ?_⟩⟩
     rintro (e | ⟨rfl, e⟩)
     ·exact e
     ·rw [e] at q
      cases hc : row.contains y with
      | true => exact List.contains_iff_mem.mp hc
      | false => rw [hc] at q; exact absurd rfl q
   obtain ⟨i1, i2⟩ := ih _ hs.1
   refine ⟨i1, fun y => ?_⟩
   rw [i2, hs.2, List.mem_cons]
   constructor
   ·rintro ((e | ⟨rfl, e⟩) | ⟨e, e'⟩)
    ·exact .inl e
    ·exact .inr ⟨.inl rfl, e⟩
    ·exact .inr ⟨.inr e, e'⟩
   ·rintro (e | ⟨rfl | e, e'⟩)
    ·exact .inl (.inl e)
    ·exact .inl (.inr ⟨rfl, e'⟩)
    ·exact .inr ⟨e, e'⟩
 have := this pieces [] .nil
 refine ⟨this.1, fun y => ?_⟩
 unfold rowF
 rw [this.2]; simp
section
variable {a : List Int} {u v : Nat} {l l' : List Nat}
theorem Up.uniq (h : Up a v l) : ∀ {l'}, Up a v l' → l = l' := by
 induction h with
 | root e =>
  intro l' h'
  rcases h'.split with ⟨_, rfl⟩ | ⟨p, l'', e', ne, _, _⟩
  ·rfl
  ·rw [e] at e'; exact absurd (by have := Option.some.inj e'; lia) ne
 | step e ne h ih =>
  intro l' h'
  rcases h'.split with ⟨e', rfl⟩ | ⟨p', l'', e', ne', h'', rfl⟩
  ·rw [e] at e'; exact absurd (by have := Option.some.inj e'; lia) ne
  ·rw [e] at e'
   have ep := Option.some.inj e'
   have ep := Int.ofNat.inj ep
   subst ep
   rw [ih h'']
theorem Up.last (h : Up a v l) : ∃ t, l = t ++ [v] := by
 cases h with
 | root => exact ⟨[], rfl⟩
 | step _ _ h => exact ⟨_, rfl⟩
theorem Up.take (h : Up a v l) : ∀ i, i < l.length → Up a (l.getD i 0) (l.take (i + 1)) := by
 induction h with
 | root e =>
  intro i hi
  have : i = 0 := by simpa using hi
  subst this
  exact .root e
 | @step v p l e ne h ih =>
  intro i hi
  rw [List.length_append] at hi
  by_cases q : i < l.length
  ·have e1 : (l ++ [v]).getD i 0 = l.getD i 0 := by
    rw [List.getD_eq_getElem?_getD, List.getD_eq_getElem?_getD, List.getElem?_append_left q]
   have e2 : (l ++ [v]).take (i + 1) = l.take (i + 1) := List.take_append_of_le_length (by lia)
   rw [e1, e2]
   exact ih i q
  ·have : i = l.length := by simp at hi; lia
   subst this
   have e1 : (l ++ [v]).getD l.length 0 = v := by
    rw [List.getD_eq_getElem?_getD, List.getElem?_append_right (Nat.le_refl _), Nat.sub_self]; rfl
   have e2 : (l ++ [v]).take (l.length + 1) = l ++ [v] := List.take_of_length_le (by simp)
   rw [e1, e2]
   exact .step e ne h
noncomputable def lcp : List Nat → List Nat → List Nat
 | x :: r, y :: t => if x = y then x :: lcp r t else []
 | _, _ => []
theorem lcp_left : ∀ (c d : List Nat), ∃ r, c = lcp c d ++ r
 | [], d => ⟨[], by simp [lcp]⟩
 | x :: c, [] => ⟨x :: c, by simp [lcp]⟩
 | x :: c, y :: d => by
  unfold lcp
  split
  ·obtain ⟨r, e⟩ := lcp_left c d
   exact ⟨r, by rw [List.cons_append, ← e]⟩
  ·exact ⟨x :: c, rfl⟩
theorem lcp_comm : ∀ (c d : List Nat), lcp c d = lcp d c
 | [], [] => rfl
 | [], y :: d => rfl
 | x :: c, [] => rfl
 | x :: c, y :: d => by
  unfold lcp
  by_cases h : x = y
  ·subst h; rw [if_pos rfl, if_pos rfl, lcp_comm c d]
  ·rw [if_neg h, if_neg (fun e => h e.symm)]
theorem lcp_max : ∀ (p c d : List Nat), p <+: c → p <+: d → p <+: lcp c d
 | [], c, d, _, _ => List.nil_prefix
 | x :: p, c, d, ⟨r, hc⟩, ⟨t, hd⟩ => by
  subst hc hd
  show x :: p <+: lcp (x :: (p ++ r)) (x :: (p ++ t))
  unfold lcp
  rw [if_pos rfl]
  obtain ⟨s, e⟩ := lcp_max p (p ++ r) (p ++ t) ⟨r, rfl⟩ ⟨t, rfl⟩
  exact ⟨s, by rw [List.cons_append, e]⟩
theorem lcp_pre (c d : List Nat) : lcp c d <+: c ∧ lcp c d <+: d := by
 refine ⟨?_, ?_⟩
 ·obtain ⟨r, e⟩ := lcp_left c d; exact ⟨r, e.symm⟩
 ·obtain ⟨r, e⟩ := lcp_left d c; rw [lcp_comm]; exact ⟨r, e.symm⟩
theorem lcp_take : ∀ (c d : List Nat) (n : Nat), n ≤ c.length → n ≤ d.length → (∀ i, i < n → c.getD i 0 = d.getD i 0) → (n < c.length → n < d.length → c.getD n 0 ≠ d.getD n 0) → lcp c d = c.take n
 | [], d, n, h1, _, _, _ => by
  have e : n = 0 := by simpa using h1
  subst e; simp [lcp]
 | x :: c, [], n, _, h2, _, _ => by
  have e : n = 0 := by simpa using h2
  subst e; simp [lcp]
 | x :: c, y :: d, 0, _, _, _, h => by
  have := h (by simp) (by simp)
  unfold lcp
  rw [if_neg (by simpa using this)]; rfl
 | x :: c, y :: d, n + 1, h1, h2, h3, h4 => by
  have e : x = y := by simpa using h3 0 (by lia)
  subst e
  unfold lcp
  rw [if_pos rfl, List.take_succ_cons, lcp_take c d n (by simpa using h1) (by simpa using h2) (fun i hi => by have := h3 (i + 1) (by lia); simpa using this) (fun q1 q2 => by have := h4 (by simpa using q1) (by simpa using q2); simpa using this)]
theorem frontF_lcp (h : Up a u l) (h' : Up a v l') : frontF l l' = lcp l l' := by
 obtain ⟨b1, b2, b3, b4⟩ := bs_spec (sameAt l l') (min l.length l'.length) 0 (min l.length l'.length) (by lia) (by lia) (fun i j _ h2 h3 hp => by
  unfold sameAt differ at hp ⊢
  have e : l.getD j 0 = l'.getD j 0 := by
   simp only [Bool.and_true, Bool.not_eq_true', bne_eq_false_iff_eq] at hp; lia
  have U1 := h.take j (by lia)
  have U2 := h'.take j (by lia)
  rw [e] at U1
  have E := U1.uniq U2
  have : l.getD i 0 = l'.getD i 0 := by
   have := congrArg (fun t => t.getD i 0) E
   simp only [List.getD_eq_getElem?_getD] at this ⊢
   rwa [List.getElem?_take_of_lt (by lia), List.getElem?_take_of_lt (by lia)] at this
  simp only [Bool.and_true, Bool.not_eq_true', bne_eq_false_iff_eq]; lia)
 unfold frontF
 refine (lcp_take l l' _ (by unfold bsOf; lia) (by unfold bsOf; lia) (fun i hi => ?_) fun q1 q2 => ?_).symm
 ·have := b3 i (by lia) hi
  unfold sameAt differ at this
  simp only [Bool.and_true, Bool.not_eq_true', bne_eq_false_iff_eq] at this; lia
 ·have := b4 (bsOf (sameAt l l') (min l.length l'.length)) (Nat.le_refl _) (by lia)
  intro e
  unfold sameAt at this
  have h2 : differ l l' (bsOf (sameAt l l') (min l.length l'.length)) = false := by unfold differ; rw [e]; simp
  unfold sameAt at h2
  rw [h2] at this; cases this
theorem chainF_up (h : Up a v l) : ∀ f, l.length ≤ f + 1 → chainF a f v = l := by
 induction h with
 | @root v e =>
  intro f _
  cases f with
  | zero => rfl
  | succ f =>
   unfold chainF
   have : a.getD v (-1) = (v : Int) := by rw [List.getD_eq_getElem?_getD, e]; rfl
   rw [this, if_pos (by simp)]
 | @step v p l e ne h ih =>
  intro f hf
  cases f with
  | zero =>
   exfalso
   obtain ⟨t, rfl⟩ := h.last
   simp at hf
  | succ f =>
   unfold chainF
   have : a.getD v (-1) = (p : Int) := by rw [List.getD_eq_getElem?_getD, e]; rfl
   rw [this, if_neg (by simp; lia), Int.toNat_natCast, ih f (by simp at hf; lia)]
theorem chainOf_up (h : Up a v l) (hl : l.length ≤ 8) : chainOf a v = l := by
 unfold chainOf
 obtain ⟨p, e⟩ := h.ne
 have : a.getD v (-1) = (p : Int) := by rw [List.getD_eq_getElem?_getD, e]; rfl
 rw [this, if_neg (by simp)]
 exact chainF_up h 7 hl
end
inductive Reach (ways : List (Nat × Nat)) (wo : Int) (b : Nat) : Nat → Prop
 | base : (b : Int) ≠ wo → Reach ways wo b b
 | step {x y : Nat} : Reach ways wo b x → (x, y) ∈ ways → (y : Int) ≠ wo → Reach ways wo b y
section
variable {ways : List (Nat × Nat)} {wo : Int} {b : Nat}
theorem stepR_iff (c : Nat) (got : List Nat) (p : Nat × Nat) : stepR wo c got p = if p.1 = c ∧ (p.2 : Int) ≠ wo ∧ p.2 ∉ got then got ++ [p.2] else got := by
 unfold stepR
 by_cases h : p.1 = c ∧ (p.2 : Int) ≠ wo ∧ p.2 ∉ got
 ·rw [if_pos h, if_pos]
  simp only [Bool.and_eq_true, beq_iff_eq, bne_iff_ne, ne_eq, Bool.not_eq_true']
  refine ⟨by lia, h.2.1, ?_, by trivial⟩
  cases hc : got.contains p.2 with
  | false => rfl
  | true => exact absurd (List.contains_iff_mem.mp hc) h.2.2
 ·rw [if_neg h, if_neg]
  intro q
  simp only [Bool.and_eq_true, beq_iff_eq, bne_iff_ne, ne_eq, Bool.not_eq_true'] at q
  refine h ⟨by lia, q.2.1, fun m => ?_⟩
  rw [List.contains_iff_mem.mpr m] at q
  exact absurd q.2.2.1 (by decide)
theorem stepR_sub (c : Nat) (got : List Nat) (p : Nat × Nat) : ∀ x ∈ got, x ∈ stepR wo c got p := fun x h => by
 rw [stepR_iff]; split
 ·exact List.mem_append_left _ h
 ·exact h
theorem rowR_sub (c : Nat) : ∀ (ps : List (Nat × Nat)) (got : List Nat), ∀ x ∈ got, x ∈ rowR ps wo c got
 | [], got, x, h => h
 | p :: ps, got, x, h => by
  unfold rowR
  rw [List.foldl_cons]
  exact rowR_sub c ps _ x (stepR_sub c got p x h)
theorem rowR_has (c : Nat) : ∀ (ps : List (Nat × Nat)) (got : List Nat) (y : Nat), (c, y) ∈ ps → (y : Int) ≠ wo → y ∈ rowR ps wo c got
 | p :: ps, got, y, h, hy => by
  unfold rowR
  rw [List.foldl_cons]
  rcases List.mem_cons.mp h with rfl | h
  ·refine rowR_sub c ps _ y ?_
   rw [stepR_iff]
   by_cases m : y ∈ got
   ·split
    ·exact List.mem_append_left _ m
    ·exact m
   ·rw [if_pos ⟨rfl, hy, m⟩]; exact List.mem_append_right _ (.head _)
  ·exact rowR_has c ps _ y h hy
theorem rowR_from (c : Nat) (hc : Reach ways wo b c) : ∀ (ps : List (Nat × Nat)) (got : List Nat), (∀ p ∈ ps, p ∈ ways) → (∀ x ∈ got, Reach ways wo b x) → ∀ x ∈ rowR ps wo c got, Reach ways wo b x
 | [], got, _, h, x, m => h x m
 | p :: ps, got, hp, h, x, m => by
  unfold rowR at m
  rw [List.foldl_cons] at m
  refine rowR_from c hc ps _ (fun q k => hp q (.tail _ k)) (fun y k => ?_) x m
  rw [stepR_iff] at k
  split at k
  ·rename_i q
   rcases List.mem_append.mp k with k | k
   ·exact h y k
   ·simp only [List.mem_singleton] at k
    subst k
    exact .step hc (by have := hp p (.head _); rw [← q.1]; exact this) q.2.1
  ·exact h y k
theorem goR_spec (hw : ∀ p ∈ ways, p.1 < 6 ∧ p.2 < 6) : ∀ f (got : List Nat) k, 7 ≤ k + f → GotOK got → b ∈ got → (∀ x ∈ got, Reach ways wo b x) → (∀ i, i < k → i < got.length → ∀ y, (got.getD i 0, y) ∈ ways → (y : Int) ≠ wo → y ∈ got) →
  b ∈ goR ways wo f got k ∧ (∀ x ∈ goR ways wo f got k, Reach ways wo b x) ∧ ∀ x ∈ goR ways wo f got k, ∀ y, (x, y) ∈ ways → (y : Int) ≠ wo → y ∈ goR ways wo f got k
 | 0, got, k, hk, hg, hb, h1, h2 => by
  unfold goR
  refine ⟨hb, h1, fun x hx y hxy hy => ?_⟩
  obtain ⟨i, hi, rfl⟩ := List.getElem_of_mem hx
  have := hg.len
  refine h2 i (by lia) hi y ?_ hy
  rw [List.getD_eq_getElem?_getD, List.getElem?_eq_getElem hi]; exact hxy
 | f + 1, got, k, hk, hg, hb, h1, h2 => by
  unfold goR
  split
  ·rename_i hlt
   have e0 : got.getD k 0 = got[k] := by rw [List.getD_eq_getElem?_getD, List.getElem?_eq_getElem hlt]; rfl
   have hm : got.getD k 0 ∈ got := by rw [e0]; exact List.getElem_mem hlt
   obtain ⟨g1, t, g2⟩ := hg.row wo (got.getD k 0) ways fun p m => (hw p m).2
   refine goR_spec hw f _ _ (by lia) g1 (rowR_sub _ _ _ _ hb) (rowR_from _ (h1 _ hm) ways got (fun p m => m) h1) fun i hi hil y hxy hy => ?_
   by_cases q : i < got.length
   ·have e : (rowR ways wo (got.getD k 0) got).getD i 0 = got.getD i 0 := by
     rw [g2, List.getD_eq_getElem?_getD, List.getD_eq_getElem?_getD, List.getElem?_append_left q]
    rw [e] at hxy
    rcases Nat.lt_or_eq_of_le (Nat.le_of_lt_succ hi) with q' | q'
    ·exact rowR_sub _ _ _ _ (h2 i q' q y hxy hy)
    ·subst q'; exact rowR_has _ _ _ _ hxy hy
   ·lia
  ·rename_i hlt
   refine ⟨hb, h1, fun x hx y hxy hy => ?_⟩
   obtain ⟨i, hi, rfl⟩ := List.getElem_of_mem hx
   refine h2 i (by lia) hi y ?_ hy
   rw [List.getD_eq_getElem?_getD, List.getElem?_eq_getElem hi]; exact hxy
theorem reachF_iff (hw : ∀ p ∈ ways, p.1 < 6 ∧ p.2 < 6) (hb : b < 6) (v : Nat) : v ∈ reachF ways b wo ↔ Reach ways wo b v := by
 unfold reachF
 by_cases h : (b : Int) = wo
 ·rw [if_pos (by simpa using h)]
  refine ⟨fun m => (by cases m), fun r => ?_⟩
  exfalso
  induction r with
  | base n => exact n h
  | step _ _ _ ih => exact ih
 ·rw [if_neg (by simpa using h)]
  obtain ⟨s1, s2, s3⟩ := goR_spec (wo := wo) (b := b) hw 7 [b] 0 (by lia) ⟨by simp, by simpa using hb⟩ (.head _) (fun x m => by simp only [List.mem_singleton] at m; subst m; exact .base h) (fun i hi => by lia)
  constructor
  ·exact s2 v
  ·intro r
   induction r with
   | base _ => exact s1
   | step _ hxy hy ih => exact s3 _ ih _ hxy hy
theorem reach_contains (hw : ∀ p ∈ ways, p.1 < 6 ∧ p.2 < 6) (hb : b < 6) (v : Nat) : (reachF ways b wo).contains v = true ↔ Reach ways wo b v := by
 rw [List.contains_iff_mem, reachF_iff hw hb]
end
section
variable {ways : List (Nat × Nat)} {wo : Int} {b u v d : Nat}
theorem Reach.trans (h : Reach ways wo b u) (h' : Reach ways wo u v) : Reach ways wo b v := by
 induction h' with
 | base _ => exact h
 | step _ m n ih => exact .step ih m n
theorem Reach.ne (h : Reach ways wo b v) : (v : Int) ≠ wo := by
 cases h with
 | base n => exact n
 | step _ _ n => exact n
theorem Reach.free (h : Reach ways wo b v) : Reach ways (-1) b v := by
 induction h with
 | base _ => exact .base (by lia)
 | step _ m _ ih => exact .step ih m (by lia)
theorem Reach.start (h : Reach ways wo b v) : (b : Int) ≠ wo := by
 induction h with
 | base n => exact n
 | step _ _ _ ih => exact ih
noncomputable def Dm (ways : List (Nat × Nat)) (b v d : Nat) : Prop := ¬ Reach ways (d : Int) b v
theorem Dm.self : Dm ways b v v := fun h => h.ne rfl
theorem Dm.start : Dm ways b v b := fun h => h.start rfl
theorem Dm.back (h : Dm ways b v d) (m : (u, v) ∈ ways) (n : d ≠ v) : Dm ways b u d := fun r => h (.step r m (by lia))
theorem Reach.last (h : Reach ways wo b v) (n : v ≠ b) : ∃ u, Reach ways wo b u ∧ (u, v) ∈ ways := by
 cases h with
 | base _ => exact absurd rfl n
 | step r m _ => exact ⟨_, r, m⟩
theorem Dm.of_start (h : Dm ways b b d) : d = b := by
 refine Classical.byContradiction fun n => h (.base (by lia))
theorem Dm.sub {D : Nat → Nat → Prop} (h0 : ∀ x, D b x → x = b) (hs : ∀ u v, Reach ways (-1) b u → (u, v) ∈ ways → v ≠ b → ∀ x, D v x → x = v ∨ D u x) (hv : Reach ways (-1) b v) {x : Nat} (hx : D v x) : Dm ways b v x := by
 intro r
 have key : ∀ {z : Nat}, Reach ways (x : Int) b z → D z x → False := by
  intro z r
  induction r with
  | base n => intro hd; exact n (by have := h0 x hd; lia)
  | @step y z r m n ih =>
   intro hd
   by_cases e : z = b
   ·subst e; exact n (by have := h0 x hd; lia)
   ·rcases hs y z r.free m e x hd with q | q
    ·exact n (by lia)
    ·exact ih q
 exact key r hx
end
noncomputable def Red (l : List (Nat × Nat)) (b : Nat) : Prop := ∃ ord : Nat → Nat, ∀ x y, (x, y) ∈ l → ¬ Dm l b x y → ord x < ord y
structure GraphOK (b : Nat) (l : List (Nat × Nat)) (v : List Nat) : Prop where
 loop : ∀ p ∈ l, p.1 ≠ p.2
 nb : b ∉ v
 reach : ∀ x ∈ v, Reach l (-1) b x
 fst : ∀ p ∈ l, p.1 ∈ v ∨ p.1 = b
 snd : ∀ p ∈ l, p.2 ∈ v ∨ p.2 = b
 len : l.length ≤ 1000
 vlen : v.length ≤ 1000
noncomputable def ph (g i x : Nat) : Nat := if x = g then i else x
theorem mem_merge {l : List (Nat × Nat)} {g i : Nat} {p q : Nat} : (p, q) ∈ merge l g i ↔ ∃ x, (x, q) ∈ l ∧ q ≠ g ∧ ph g i x = p ∧ p ≠ q := by
 unfold merge
 rw [List.mem_filter, List.mem_map]
 constructor
 ·rintro ⟨⟨⟨x, y⟩, h1, h2⟩, h3⟩
  rw [List.mem_filter] at h1
  obtain ⟨h1, h4⟩ := h1
  simp only [Prod.mk.injEq, beq_iff_eq, bne_iff_ne, ne_eq] at h2 h3 h4
  obtain ⟨h5, rfl⟩ := h2
  refine ⟨x, h1, by lia, ?_, by lia⟩
  unfold ph
  rw [← h5]
  by_cases e : x = g
  ·rw [if_pos e, if_pos (by lia)]
  ·rw [if_neg e, if_neg (by lia)]
 ·rintro ⟨x, h1, h2, h3, h4⟩
  refine ⟨⟨(x, q), List.mem_filter.mpr ⟨h1, by simp only [bne_iff_ne, ne_eq]; lia⟩, ?_⟩, by simp only [bne_iff_ne, ne_eq]; lia⟩
  rw [← h3]
  unfold ph
  simp only [Prod.mk.injEq, and_true, beq_iff_eq]
  by_cases e : x = g
  ·rw [if_pos e, if_pos (by lia)]
  ·rw [if_neg e, if_neg (by lia)]
section
variable {l : List (Nat × Nat)} {b g i : Nat} {v : List Nat}
structure One (l : List (Nat × Nat)) (b g i : Nat) : Prop where
 gb : g ≠ b
 has : (i, g) ∈ l
 only : ∀ x, (x, g) ∈ l → x = i
 ig : i ≠ g
theorem One.toM (O : One l b g i) {wo : Int} (hw : (g : Int) ≠ wo) {z : Nat} (h : Reach l wo b z) : Reach (merge l g i) wo b (ph g i z) := by
 induction h with
 | base n => rw [show ph g i b = b from if_neg (Ne.symm O.gb)]; exact .base n
 | @step x y h m n ih =>
  by_cases e : y = g
  ·subst e
   have := O.only x m
   subst this
   rw [show ph y x x = x from if_neg O.ig] at ih
   rw [show ph y x y = x from if_pos rfl]
   exact ih
  ·rw [show ph g i y = y from if_neg e]
   by_cases q : ph g i x = y
   ·rw [← q]; exact ih
   ·exact .step ih (mem_merge.mpr ⟨x, m, e, rfl, q⟩) n
theorem One.toL (O : One l b g i) {wo : Int} (hw : (g : Int) ≠ wo) {z : Nat} (h : Reach (merge l g i) wo b z) : Reach l wo b z := by
 induction h with
 | base n => exact .base n
 | @step x y h m n ih =>
  obtain ⟨x', m', e, q, _⟩ := mem_merge.mp m
  unfold ph at q
  split at q
  ·rename_i e'
   subst e' q
   exact .step (.step ih O.has hw) m' n
  ·subst q
   exact .step ih m' n
theorem One.dm (O : One l b g i) {x y : Nat} (hy : y ≠ g) (hx : x ≠ g) : Dm (merge l g i) b x y ↔ Dm l b x y := by
 constructor
 ·intro h r
  have := O.toM (by lia) r
  rw [show ph g i x = x from if_neg hx] at this
  exact h this
 ·intro h r
  exact h (O.toL (by lia) r)
theorem One.fwd (O : One l b g i) (hi : Reach l (-1) b i) : ¬ Dm l b i g := fun d => by
 have : ∀ {z}, Reach l (-1) b z → Reach l (g : Int) b z ∨ Reach l (g : Int) b i := by
  intro z h
  induction h with
  | base n => exact .inl (.base (by have := O.gb; lia))
  | @step x y h m n ih =>
   by_cases e : y = g
   ·subst e
    have := O.only x m
    subst this
    exact .inr (ih.elim id id)
   ·rcases ih with q | q
    ·exact .inl (.step q m (by lia))
    ·exact .inr q
 exact d ((this hi).elim id id)
theorem One.dmi (O : One l b g i) : Dm l b g i := fun r => by
 cases r with
 | base _ => exact O.gb rfl
 | step r m _ =>
  have := O.only _ m
  subst this
  exact r.ne rfl
theorem One.dmg (O : One l b g i) {y : Nat} (hy : y ≠ g) : Dm l b g y ↔ Dm l b i y := by
 constructor
 ·exact fun h => h.back O.has hy
 ·intro h r
  cases r with
  | base _ => exact O.gb rfl
  | step r m _ =>
   have := O.only _ m
   subst this
   exact h r
theorem One.red (O : One l b g i) (G : GraphOK b l v) (hi : Reach l (-1) b i) : Red l b ↔ Red (merge l g i) b := by
 constructor
 ·rintro ⟨ord, h⟩
  refine ⟨ord, fun p q m n => ?_⟩
  obtain ⟨x, m', e, ex, npq⟩ := mem_merge.mp m
  unfold ph at ex
  split at ex
  ·rename_i e'
   subst e' ex
   have n' : ¬ Dm l b i q := fun d => n ((O.dm e O.ig).mpr d)
   have h1 := h i x O.has (O.fwd hi)
   have h2 := h x q m' fun d => n' ((O.dmg e).mp d)
   lia
  ·rename_i e'
   subst ex
   exact h x q m' fun d => n ((O.dm e e').mpr d)
 ·rintro ⟨ord, h⟩
  refine ⟨fun x => if x = g then 2 * ord i + 1 else 2 * ord x, fun x y m n => ?_⟩
  by_cases ey : y = g
  ·subst ey
   have := O.only x m
   subst this
   show (if x = y then _ else 2 * ord x) < if y = y then 2 * ord x + 1 else _
   rw [if_neg O.ig, if_pos rfl]; lia
  ·show (if x = g then 2 * ord i + 1 else 2 * ord x) < if y = g then 2 * ord i + 1 else 2 * ord y
   rw [if_neg ey]
   by_cases ex : x = g
   ·subst ex
    rw [if_pos rfl]
    have iy : i ≠ y := fun e => n (e ▸ O.dmi)
    have := h i y (mem_merge.mpr ⟨x, m, ey, if_pos rfl, iy⟩) fun d => n ((O.dmg ey).mpr ((O.dm ey O.ig).mp d))
    lia
   ·rw [if_neg ex]
    have := h x y (mem_merge.mpr ⟨x, m, ey, if_neg ex, G.loop _ m⟩) fun d => n ((O.dm ey ex).mp d)
    lia
theorem Dm.trans {ways : List (Nat × Nat)} {x y z : Nat} (h : Dm ways b x y) (h' : Dm ways b y z) : Dm ways b x z := fun r => by
 have : ∀ {w}, Reach ways (z : Int) b w → Reach ways (y : Int) b w ∨ Reach ways (z : Int) b y := by
  intro w r
  induction r with
  | @base n =>
   by_cases e : b = y
   ·subst e; exact .inr (.base n)
   ·exact .inl (.base (by lia))
  | @step u w r m n ih =>
   rcases ih with q | q
   ·by_cases e : w = y
    ·subst e; exact .inr (.step r m n)
    ·exact .inl (.step q m (by lia))
   ·exact .inr q
 rcases this r with q | q
 ·exact h q
 ·exact h' q
theorem Dm.anti {ways : List (Nat × Nat)} {x y : Nat} (hx : Reach ways (-1) b x) (h : Dm ways b x y) (h' : Dm ways b y x) : x = y := by
 refine Classical.byContradiction fun n => ?_
 have : ∀ {w}, Reach ways (-1) b w → (Reach ways (x : Int) b w ∧ Reach ways (y : Int) b w) ∨ Reach ways (x : Int) b y ∨ Reach ways (y : Int) b x := by
  intro w r
  induction r with
  | base _ =>
   by_cases e : b = x
   ·subst e; exact .inr (.inr (.base (by lia)))
   ·by_cases e' : b = y
    ·subst e'; exact .inr (.inl (.base (by lia)))
    ·exact .inl ⟨.base (by lia), .base (by lia)⟩
  | @step u w r m _ ih =>
   rcases ih with ⟨q1, q2⟩ | q
   ·by_cases e : w = x
    ·subst e; exact .inr (.inr (.step q2 m (by lia)))
    ·by_cases e' : w = y
     ·subst e'; exact .inr (.inl (.step q1 m (by lia)))
     ·exact .inl ⟨.step q1 m (by lia), .step q2 m (by lia)⟩
   ·exact .inr q
 rcases this hx with ⟨_, q⟩ | q | q
 ·exact h q
 ·exact h' q
 ·exact h q
theorem filter_lt {p q : Nat → Bool} (h : ∀ x, p x = true → q x = true) : ∀ {l : List Nat} {z : Nat}, z ∈ l → q z = true → p z = false → (l.filter p).length < (l.filter q).length
 | [], z, m, _, _ => by cases m
 | x :: l, z, m, hq, hp => by
  have le : ∀ l : List Nat, (l.filter p).length ≤ (l.filter q).length := by
   intro l
   induction l with
   | nil => exact Nat.le_refl _
   | cons y l ih =>
    rw [List.filter_cons, List.filter_cons]
    split
    ·rename_i e; rw [if_pos (h y e)]; simp only [List.length_cons]; lia
    ·split
     ·simp only [List.length_cons]; lia
     ·exact ih
  rw [List.filter_cons, List.filter_cons]
  rcases List.mem_cons.mp m with rfl | m
  ·rw [hp, hq, if_neg (by decide), if_pos rfl]
   have := le l
   simp only [List.length_cons]; lia
  ·have ih := filter_lt h m hq hp
   split
   ·rename_i e; rw [if_pos (h x e)]; simp only [List.length_cons]; lia
   ·split
    ·simp only [List.length_cons]; lia
    ·exact ih
theorem least {P : Nat → Prop} (ord : Nat → Nat) : ∀ m w, ord w ≤ m → P w → ∃ w, P w ∧ ∀ x, P x → ord w ≤ ord x := by
 intro m
 induction m with
 | zero => intro w hm hw; exact ⟨w, hw, fun x _ => by lia⟩
 | succ m ih =>
  intro w hm hw
  by_cases q : ∃ x, P x ∧ ord x < ord w
  ·obtain ⟨x, hx, hl⟩ := q
   exact ih x (by lia) hx
  ·exact ⟨w, hw, fun x hx => Nat.le_of_not_lt fun h => q ⟨x, hx, h⟩⟩
open Classical in
theorem Red.ready (G : GraphOK b l v) (R : Red l b) (hv : v ≠ []) : ∃ w ∈ v, ∃ i, ∀ x, (x, w) ∈ l → x = i := by
 obtain ⟨ord, h⟩ := R
 let S : Nat → Nat → Prop := fun u w => w ∈ v ∧ u ≠ w ∧ Dm l b w u
 have key : ∀ m u, (v.filter fun w => decide (S u w)).length ≤ m → (∃ w, S u w) → ∃ w ∈ v, ∃ i, ∀ x, (x, w) ∈ l → x = i := by
  intro m
  induction m with
  | zero =>
   intro u hm ⟨w, hw⟩
   have : w ∈ v.filter fun w => decide (S u w) := List.mem_filter.mpr ⟨hw.1, by simpa using hw⟩
   have := List.length_pos_of_mem this
   lia
  | succ m ih =>
   intro u hm ⟨w₀, hw₀⟩
   obtain ⟨w, hw, lw⟩ := least (P := S u) ord (ord w₀) w₀ (Nat.le_refl _) hw₀
   by_cases q : ∃ x, S w x
   ·by_cases all : ∀ x, (x, w) ∈ l → x = u
    ·exact ⟨w, hw.1, u, all⟩
    ·simp only [Classical.not_forall] at all
     obtain ⟨x, mx, nx⟩ := all
     obtain ⟨z, hz⟩ := q
     refine ih w (Nat.le_of_lt_succ (Nat.lt_of_lt_of_le (filter_lt (fun y hy => ?_) (z := w) hw.1 (by simpa using hw) (by simp [S])) hm)) ⟨z, hz⟩
     simp only [decide_eq_true_eq] at hy ⊢
     refine ⟨hy.1, ?_, hy.2.2.trans hw.2.2⟩
     rintro rfl
     exact hy.2.1 (Dm.anti (G.reach _ hy.1) hy.2.2 hw.2.2).symm
   ·refine ⟨w, hw.1, u, fun x mx => Classical.byContradiction fun nx => ?_⟩
    have du : Dm l b x u := hw.2.2.back mx hw.2.1
    have xv : x ∈ v := by
     rcases G.fst _ mx with e | e
     ·exact e
     ·have e : x = b := e
      subst e
      exact absurd du.of_start (Ne.symm nx)
    by_cases f : Dm l b x w
    ·exact q ⟨x, xv, Ne.symm (G.loop _ mx), f⟩
    ·have h1 := h x w mx f
     have h2 := lw x ⟨xv, Ne.symm nx, du⟩
     lia
 have : ∃ w, w ∈ v := by
  cases v with
  | nil => exact absurd rfl hv
  | cons w v => exact ⟨w, .head _⟩
 obtain ⟨w, hw⟩ := this
 exact key _ b (Nat.le_refl _) ⟨w, hw, fun e => G.nb (e ▸ hw), Dm.start⟩
end
noncomputable abbrev hN : Str := Str.ofString "_headers"
noncomputable def mA (b : Addr) : Str → Option Value := fun y => if y = hN then some (.ref b) else none
theorem cls297 {w : World} {h : Heap} (X : SaysT w h) : ∃ nm q bs sn sub col dd k0 k1 k2 k3 k5, h.get? 297 = some (excClassObj nm q 297 296 bs [.type "object"] true sn sub false col dd k0 k1 k2 k3 k5 "object.__new__") :=
 ⟨S [72,101,97,100,101,114,115], S [72,101,97,100,101,114,115], [.type "object"], [], [], none, none, none, none, some (.str (S [72,101,97,100,101,114,115]) 2686), some (.str (S [72,101,97,100,101,114,115]) 2694), some (.bool true), X.get _ _ (by decide) (fun z => z) (show (H1 w.params).get? 297 = some o297 by kernel_rfl)⟩
theorem ns296 {w : World} {h : Heap} (X : SaysT w h) : h.Ns 296 ((H1 w.params).nsMap 296) :=
 (Heap.Ns.of_isNs (show (H1 w.params).isNs 296 = true by kernel_rfl)).at' fun o eo => X.get _ o (by decide) (fun z => z) eo
theorem HdrIs.inst {h : Heap} {a i b : Addr} (x : HdrIs h a i b) : h.InstFk a 297 (mA b) := by
 obtain ⟨o, oi, ho, hc, hi, hp, hoi, hcl, hdi, es, n, hd, k, u, f⟩ := x
 refine ⟨o, ho, hc, (fun c z => by rw [hp] at z; cases z), .inr ⟨i, hi, ?_, ⟨oi, es, n, hoi, hd, k, u, f⟩, ⟨oi, hoi, hcl, hdi⟩⟩⟩
 rintro rfl
 rw [ho] at hoi; cases hoi
 rw [hp] at hd; cases hd
theorem HdrIs.of {h : Heap} {a i b : Addr} {o : Obj} (I : h.InstFk a 297 (mA b)) (ho : h.get? a = some o) (hi : o.dict = some i) (hp : o.data = .plain) : HdrIs h a i b := by
 obtain ⟨o', ho', hc, _, hd⟩ := I
 rw [ho] at ho'; cases ho'
 rcases hd with ⟨e, _⟩ | ⟨d, e, ne, ⟨oi, es, n, e1, e2, k, u, f⟩, ⟨oi', e1', c1, c2⟩⟩
 ·exact no e hi
 ·rw [hi] at e; cases e
  rw [e1] at e1'; cases e1'
  exact ⟨o, oi, ho, hc, hi, hp, e1, c1, c2, es, n, e2, k, u, f⟩
section
variable {w : World} {A : Around} {s : Shared} {E : Value → Shared → Prop} {a i b : Addr}
theorem hdr_attr {expr : Bool} {Q : Value → Shared → Prop} (X : SaysT w s.heap) (x : HdrIs s.heap a i b) (q : Q (.ref b) { s with toks := s.toks + 1 }) : wpAny (model pr w) A (getAttr (.ref a) hN expr) Q E s := by
 obtain ⟨nm, q', bs, sn, sub, col, dd, k0, k1, k2, k3, k5, hC⟩ := cls297 X
 obtain ⟨h, g, d, t, os⟩ := s
 exact load_attrFk hC (ns296 X) (by kernel_rfl) (by kernel_rfl) (by rw [typeLookup_type, builtinLookup_eq_fast]; kernel_rfl) x.inst (show mA b hN = some (.ref b) from if_pos rfl) rfl q
theorem hdr_method {pl : Sem Bool} {name : Str} {fa : Addr} {of : Obj} {y : Option Value} {Q : Value × List Value → Shared → Prop} (X : SaysT w s.heap) (x : HdrIs s.heap a i b) (hm : (H1 w.params).nsMap 296 name = some (.ref fa)) (hfo : (H1 w.params).get? fa = some of) (hfc : of.cls = .type "function") (hT : fa ≠ TF)
  (hB : typeLookup (.type "object") name = pure y) (hs : (name == hN) = false) (q : Q (.ref fa, [.ref a]) s) : wpAny (model pr w) A (getMethod (.ref a) name pl) Q E s := by
 obtain ⟨nm, q', bs, sn, sub, col, dd, k0, k1, k2, k3, k5, hC⟩ := cls297 X
 have hsh : mA b name = none := if_neg (by simpa using hs)
 have hfo' := X.get _ _ hT (fun z => z) hfo
 obtain ⟨h, g, d, t, os⟩ := s
 exact method_ofFk hC (ns296 X) (by kernel_rfl) (by kernel_rfl) hm hfo' hfc hB x.inst hsh q
end
section
variable {w : World} {k : Nat} {sc : Scope} {ρ : Rho} {md m₁ m₂ : Md} {d d₁ d₂ dk : D} {o e kv : PySem.Expr} {pos pa pk : Pos} {ds : List D} {args : List D} {res : D} {name x : Str}
theorem ev_hlist (h : Ev w k sc ρ md e (.hdr ds)) (he : ∀ env, eval (.Attribute e hN pos) env = (do
   let o ← eval e env
   standAt pos.atName
   let r ← holding [o] (getAttr o hN true)
   letTemporaryGo e o r
   pure r) := by intro _; with_unfolding_all rfl) : Ev w k sc ρ md (.Attribute e hN pos) (.lst ds) := fun A c s Q E R S q =>
 Attribute_any_ (h A c s _ _ R S fun v s₁ z₁ a₁ => by
  have S₁ := S.kps z₁
  refine a₁.cH fun _ _ _ _ na ni nb hh il al => ?_
  exact hdr_attr S₁.base hh (q _ _ (z₁.trans (.toks s₁ _)) (.lst nb il al))) (he _)
structure MethAt (w : World) (name : Str) (fa : Addr) (fd : FuncData) (body : List Stmt) : Prop where
 fn : FnAt w fa fd body
 inNs : (H1 w.params).nsMap 296 name = some (.ref fa)
 cls : ∀ o, (H1 w.params).get? fa = some o → o.cls = .type "function"
 top : ∃ y, typeLookup (.type "object") name = pure y
 ne : (name == hN) = false
theorem MethAt.get {A : Around} {s : Shared} {E : Value → Shared → Prop} {a i b : Addr} {pl : Sem Bool} {fa : Addr} {fd : FuncData} {body : List Stmt} {Q : Value × List Value → Shared → Prop} (M : MethAt w name fa fd body) (X : SaysT w s.heap) (x : HdrIs s.heap a i b) (q : Q (.ref fa, [.ref a]) s) : wpAny (model pr w) A (getMethod (.ref a) name pl) Q E s := by
 obtain ⟨of, ho, hd⟩ := M.fn.obj
 obtain ⟨y, hy⟩ := M.top
 exact hdr_method X x M.inNs ho (M.cls of ho) M.fn.ne hy M.ne q
end
section
variable {w : World} {k : Nat} {sc : Scope} {ρ : Rho} {md m₁ m₂ : Md} {d d₁ d₂ dk : D} {o e kv : PySem.Expr} {pos pa pk : Pos} {ds : List D} {args : List D} {res : D} {name x : Str} {fa : Addr} {fd : FuncData} {body : List Stmt}
theorem MethodCallK_ {M : Model} {A : Around} {E : Value → Shared → Prop} {s : Shared} {env : Env} {args : List PySem.Expr} {kws : List Keyword} {pl : Sem Bool} {Q : Value → Shared → Prop}
  (h : wpAny M A (eval o env) (fun ov s₁ => wpAny M A (getMethod ov name pl) (fun fx s₂ => wpAny M A (callWith pos fx.1 fx.2 (backTo pos (starEach args env)) (backToKw pos (keywordEach kws env))) Q E s₂) E s₁) E s)
  (he : eval (.Call (.Attribute o name pa) args kws pos) env = (do
   let ov ← eval o env
   standAt pa.atName
   let (f, first) ← holding [ov] (getMethod ov name pl)
   callWith pos f first (backTo pos (starEach args env)) (backToKw pos (keywordEach kws env)))) :
  wpAny M A (eval (.Call (.Attribute o name pa) args kws pos) env) Q E s := by
 rw [he]
 refine wpAny_bind (wpAny_mono h (fun ov s₁ h₁ => wpAny_bind (wpAny_standAt (wpAny_bind (wpAny_holding (wpAny_mono h₁ (fun fx s₂ h₂ => ?_) fun _ _ x => x))))) fun _ _ x => x)
 exact h₂
theorem ev_meth0 {pl : Env → Sem Bool} (h : Ev w (k + 1) sc ρ m₁ o (.hdr ds)) (M : MethAt w name fa fd body) (hF : FnOK w (k + 1) fa [.hdr ds] [] res)
  (he : ∀ env, eval (.Call (.Attribute o name pa) [] [] pos) env = (do
   let ov ← eval o env
   standAt pa.atName
   let (f, first) ← holding [ov] (getMethod ov name (pl env))
   callWith pos f first (backTo pos (starEach [] env)) []) := by intro _; rfl) : Ev w (k + 1) sc ρ .fresh (.Call (.Attribute o name pa) [] [] pos) res := fun A c s Q E R S q =>
 MethodCall_ (h A c s _ _ R S fun v s₁ z₁ a₁ => by
  have S₁ := S.kps z₁
  obtain ⟨ob, ho, hd⟩ := M.fn.obj
  refine a₁.cH fun _ _ _ _ na ni nb hh il al => ?_
  refine M.get S₁.base hh (callWith_meth0 hd (S₁.base.get _ _ M.fn.ne (fun z => z) ho) ?_)
  refine hF A s₁ Q E [_] [] R S₁.base (.cons (.hdr na.ne ni.ne nb.ne hh il (al.weak fun _ n => n.ne)) .nil) .nil fun v s₂ z₂ a₂ => ?_
  refine q v s₂ (z₁.trans z₂) (a₂.map fun a o n e => ⟨e, ?_⟩)
  exact S₁.newN (md := .fresh) n.2 (by intro z; cases z)) (he _)
theorem ev_meth {es : List PySem.Expr} {pl : Env → Sem Bool} (h : Ev w (k + 1) sc ρ m₁ o (.hdr ds)) (M : MethAt w name fa fd body) (hes : EvL w (k + 1) sc ρ .any es args) (hF : FnOK w (k + 1) fa (.hdr ds :: args) [] res) (hne : es ≠ [] := by intro z; cases z) (hp : es.all plainE = true := by rfl)
  (he : ∀ env, eval (.Call (.Attribute o name pa) es [] pos) env = (do
   let ov ← eval o env
   standAt pa.atName
   let (f, first) ← holding [ov] (getMethod ov name (pl env))
   callWith pos f first (backTo pos (starEach es env)) []) := by intro _; rfl) : Ev w (k + 1) sc ρ .fresh (.Call (.Attribute o name pa) es [] pos) res := fun A c s Q E R S q =>
 MethodCall_ (h A c s _ _ R S fun v s₁ z₁ a₁ => by
  have S₁ := S.kps z₁
  obtain ⟨ob, ho, hd⟩ := M.fn.obj
  refine a₁.cH fun oa _ _ _ na ni nb hh il al => ?_
  have a₁' : At s₁.heap (c.N m₁) (.ref oa) (.hdr ds) := .hdr na ni nb hh il al
  refine M.get S₁.base hh ?_
  refine callWith_function (o := ob) (fd := fd) ?_
  cases es with
  | nil => exact absurd rfl hne
  | cons e₁ es =>
   simp only [List.all_cons, Bool.and_eq_true] at hp
   rw [starEach_plain hp.1]
   refine evalArgs_plain ?_
   have key := hes A pos c s₁ (fun vs s' => (s'.heap.get? fa = some ob ∧ ob.data = .func fd) ∧ wpAny (model pr w) A (call (.ref fa) ([.ref oa] ++ vs) []) Q E s') E R S₁ fun vs s₂ z₂ a₂ => by
    have S₂ := S₁.kps z₂
    refine ⟨⟨S₂.base.get _ _ M.fn.ne (fun z => z) ho, hd⟩, ?_⟩
    refine hF A s₂ Q E (.ref oa :: vs) [] R S₂.base (.cons ((a₁'.kps z₂).weak fun _ n => n.ne) (a₂.weak fun _ n => n)) .nil fun v s₃ z₃ a₃ => ?_
    refine q v s₃ ((z₁.trans z₂).trans z₃) (a₃.map fun a o n e => ⟨e, ?_⟩)
    exact S₂.newN (md := .fresh) n.2 (by intro z; cases z)
   rw [starEach_plain hp.1] at key
   exact key) (he _)
theorem ev_methK {es : List PySem.Expr} {pl : Env → Sem Bool} (h : Ev w (k + 1) sc ρ m₁ o (.hdr ds)) (M : MethAt w name fa fd body) (hes : EvL w (k + 1) sc ρ .any es args) (hk : Ev w (k + 1) sc ρ .any kv dk) (hF : FnOK w (k + 1) fa (.hdr ds :: args) [(x, dk)] res) (hne : es ≠ [] := by intro z; cases z) (hp : es.all plainE = true := by rfl)
  (he : ∀ env, eval (.Call (.Attribute o name pa) es [⟨some x, kv, pk⟩] pos) env = (do
   let ov ← eval o env
   standAt pa.atName
   let (f, first) ← holding [ov] (getMethod ov name (pl env))
   callWith pos f first (backTo pos (starEach es env)) (backToKw pos (keywordEach [⟨some x, kv, pk⟩] env))) := by intro _; rfl) : Ev w (k + 1) sc ρ .fresh (.Call (.Attribute o name pa) es [⟨some x, kv, pk⟩] pos) res := fun A c s Q E R S q =>
 MethodCallK_ (h A c s _ _ R S fun v s₁ z₁ a₁ => by
  have S₁ := S.kps z₁
  obtain ⟨ob, ho, hd⟩ := M.fn.obj
  refine a₁.cH fun oa _ _ _ na ni nb hh il al => ?_
  have a₁' : At s₁.heap (c.N m₁) (.ref oa) (.hdr ds) := .hdr na ni nb hh il al
  refine M.get S₁.base hh ?_
  refine callWith_function_kw (o := ob) (fd := fd) ?_
  cases es with
  | nil => exact absurd rfl hne
  | cons e₁ es =>
   simp only [List.all_cons, Bool.and_eq_true] at hp
   rw [starEach_plain hp.1]
   refine evalArgs_kw rfl ?_
   have key := hes A pos c s₁ (fun vs s' => wpAny (model pr w) A (evalAll ((backToKw pos (keywordEach [⟨some x, kv, pk⟩] c.env)).map (·.2))) (fun ks s₂ => (s₂.heap.get? fa = some ob ∧ ob.data = .func fd) ∧ wpAny (model pr w) A (call (.ref fa) ([.ref oa] ++ vs) (([x] : List Str).zip ks)) Q E s₂) E s') E R S₁ fun vs s₂ z₂ a₂ => by
    have S₂ := S₁.kps z₂
    show wpAny _ A (evalAll [do let v ← eval kv c.env; standAt pos; pure v]) _ E s₂
    refine wpAny_evalAll_cons (wpAny_bind (hk A c s₂ _ _ R S₂ fun u s₃ z₃ a₃ => wpAny_bind (wpAny_standAt (wpAny_pure (wpAny_evalAll_nil ?_)))))
    have S₃ := S₂.kps z₃
    refine ⟨⟨S₃.base.get _ _ M.fn.ne (fun z => z) ho, hd⟩, ?_⟩
    refine hF A s₃ Q E (.ref oa :: vs) [u] R S₃.base (.cons (((a₁'.kps z₂).kps z₃).weak fun _ n => n.ne) ((a₂.kps z₃).weak fun _ n => n)) (.cons (a₃.weak fun _ n => n) .nil) fun v s₄ z₄ a₄ => ?_
    refine q v s₄ (((z₁.trans z₂).trans z₃).trans z₄) (a₄.map fun a o n e => ⟨e, ?_⟩)
    exact S₃.newN (md := .fresh) n.2 (by intro z; cases z)
   rw [starEach_plain hp.1] at key
   exact key) (he _)
theorem ts_typeIs {T T' : String} {p₁ p₂ p₃ p₄ : Pos} {n : Str} {n' : Str} (hf : EvV w k sc ρ (.Name n p₁) (.type "type")) (h : Ev w k sc ρ m₁ e d) (hT : ∀ (s : Shared) N v, At s.heap N v d → s.TypeIs v T) (hn : (Value.type T == Value.type "builtin_function_or_method") = false) (hv : EvV w k sc ρ (.Name n' p₂) (.type T')) (hp : plainE e = true := by rfl) :
  Ts w k sc ρ (.Compare (.Call (.Name n p₁) [e] [] p₃) [.Is] [.Name n' p₂] p₄) (T == T') := fun A c s Q E R S q => by
 refine wpAny_isTrue_Compare1 ?_ rfl
 refine wpAny_Call_Name_kw (hf A c s _ _ R S ?_)
 refine callWith_type1 (wpAny_items_cons (h A c s _ _ R S fun v s₁ z₁ a₁ => wpAny_items_nil (call_type_of (hT s₁ _ v a₁) hn ?_)) (starEach_plain hp)) (starEach_plain hp) rfl
 have S₁ := S.kps z₁
 refine hv A c s₁ _ _ R S₁ ?_
 by_cases e : T = T'
 ·subst e
  refine wpAny_is_self (by rfl) ?_
  have : (T == T) = true := beq_self_eq_true T
  exact wpAny_truthy_bool (this ▸ q s₁ z₁)
 ·refine wpAny_is_other (by rfl) (fun z => by cases z; exact e rfl) ?_
  have : (T == T') = false := beq_eq_false_iff_ne.mpr e
  exact wpAny_truthy_bool (this ▸ q s₁ z₁)
theorem ts_typeIsNot {T T' : String} {p₁ p₂ p₃ p₄ : Pos} {n : Str} {n' : Str} (hf : EvV w k sc ρ (.Name n p₁) (.type "type")) (h : Ev w k sc ρ m₁ e d) (hT : ∀ (s : Shared) N v, At s.heap N v d → s.TypeIs v T) (hn : (Value.type T == Value.type "builtin_function_or_method") = false) (hv : EvV w k sc ρ (.Name n' p₂) (.type T')) (hp : plainE e = true := by rfl) :
  Ts w k sc ρ (.Compare (.Call (.Name n p₁) [e] [] p₃) [.IsNot] [.Name n' p₂] p₄) (T != T') := fun A c s Q E R S q => by
 refine wpAny_isTrue_Compare1 ?_ rfl
 refine wpAny_Call_Name_kw (hf A c s _ _ R S ?_)
 refine callWith_type1 (wpAny_items_cons (h A c s _ _ R S fun v s₁ z₁ a₁ => wpAny_items_nil (call_type_of (hT s₁ _ v a₁) hn ?_)) (starEach_plain hp)) (starEach_plain hp) rfl
 have S₁ := S.kps z₁
 refine hv A c s₁ _ _ R S₁ ?_
 by_cases e : T = T'
 ·subst e
  refine wpAny_isNot_self (by rfl) ?_
  have : (T != T) = false := by simp
  exact wpAny_truthy_bool (this ▸ q s₁ z₁)
 ·refine wpAny_isNot_other (by rfl) (fun z => by cases z; exact e rfl) ?_
  have : (T != T') = true := by simpa using e
  exact wpAny_truthy_bool (this ▸ q s₁ z₁)
end
section
variable {M : Model} {A : Around} {E : Value → Shared → Prop} {s : Shared}
theorem drive_once (m : Sre.M) (h : (m.runFor 4).outcome.isSome = true) : ∀ n, Builtin.Re.reDrive (n + 1) m = pure (m.runFor 4) := fun n => by
 unfold Builtin.Re.reDrive
 show (if (m.runFor 4).outcome.isSome = true then _ else _) = _
 rw [if_pos h]; rfl
noncomputable def isFailed (m : Sre.M) : Bool := match (m.runFor 4).outcome with
 | some .failed => true
 | _ => false
theorem wpAny_skipLoop {α : Type} (f : α → PUnit → Sem (ForInStep PUnit)) (hf : ∀ x (Q : ForInStep PUnit → Shared → Prop), Q (.yield ⟨⟩) s → wpAny M A (f x ⟨⟩) Q E s) : ∀ (l : List α) (Q : PUnit → Shared → Prop), Q ⟨⟩ s → wpAny M A (forIn l PUnit.unit f) Q E s
 | [], Q, q => by rw [List.forIn_nil]; exact wpAny_pure q
 | x :: l, Q, q => by rw [List.forIn_cons]; exact wpAny_bind (hf x _ (wpAny_skipLoop f hf l Q q))
theorem run_failed {m : Sre.M} (h : isFailed m = true) {Q : Option Sre.M → Shared → Prop} (q : Q none s) : wpAny M A (Builtin.Re.reRunToEnd m) Q E s := by
 unfold isFailed at h
 split at h
 ·rename_i e
  unfold Builtin.Re.reRunToEnd
  have h1 : (m.runFor 4).outcome.isSome = true := by rw [e]; rfl
  have h2 : Builtin.Re.reDrive (2 ^ 64) m = pure (m.runFor 4) := drive_once m h1 (2 ^ 64 - 1)
  rw [h2]
  refine wpAny_bind (wpAny_pure (wpAny_bind (wpAny_skipLoop _ (fun x Q q => ?_) _ _ ?_)))
  ·split
   ·exact wpAny_bind (wpAny_rule (wpAny_pure q))
   ·exact wpAny_pure q
  ·rw [e]; exact wpAny_pure q
 ·cases h
end
theorem slot_search : Slot "re.Pattern" "search" "re.Pattern.search" :=
 Slot.of (owner := "re.Pattern") (n := "search") (by rw [typeLookup_type, builtinLookup_eq_fast]; kernel_rfl) (by decide +kernel) (by decide +kernel) (by decide +kernel) (by first | exact .inl (by decide +kernel) | exact .inr (by decide +kernel)) (by rw [isSubtype_type]; kernel_rfl)
theorem type_search : typeOf (.builtin "re.Pattern.search") = pure (.type "method_descriptor") := by show builtinType _ = _; rw [builtinType_eq_fast]; kernel_rfl
theorem entry_search : entryFor table "re.Pattern.search" = some Builtin.«re.Pattern.search» := entryFor_of_tree (by kernel_rfl)
theorem args_search (a b : Value) : argsOk "re.Pattern.search" ⟨[a, b], []⟩ := by unfold argsOk; kernel_rfl
theorem plainAttrs_re : PlainAttrs "re.Pattern" := ⟨⟨"object.__getattribute__", by rw [typeLookup_type, builtinLookup_eq_fast]; kernel_rfl, by decide +kernel⟩, by rw [typeLookup_type, builtinLookup_eq_fast]; kernel_rfl⟩
theorem named_search (v : Value) : Builtin.Re.reNamed "re.Pattern.search" "search" ["string", "pos", "endpos"] 1 [v] [] = pure [some v, none, none] := by kernel_rfl
theorem search_none {w : World} {A : Around} {E : Value → Shared → Prop} {s : Shared} {p c : Addr} {p0 f1 p3 p4 : Value} {its : Array Value} {n : Nat} {x : Str} {t : Tok} {Q : Value → Shared → Prop}
  (hp : s.heap.get? p = some ⟨.type "re.Pattern", none, .fields #[p0, f1, .int 0 0, p3, p4, .ref c, .int 0 0], #[]⟩) (hc : s.heap.get? c = some ⟨.type "tuple", none, .seq its n, #[]⟩)
  (hf : isFailed (Sre.forSearch ((its.map Builtin.Re.reRawOf).map (·.toNat)) x.cps 0 (min (0 : Int).toNat x.cps.size) (min (2 ^ 63 - 1 : Int).toNat x.cps.size) false) = true) (q : Q .none s) : wpAny (model pr w) A (call (.builtin "re.Pattern.search") [.ref p, .str x t]) Q E s := by
 refine wpAny_call (codeAny_call_builtin slot_search.plain entry_search (slot_search.check _ _ _ _ _ _ _ _ ⟨_, hp, rfl⟩ (args_search _ _) ?_))
 show wpAny _ _ (Builtin.Re.reTarget "re.Pattern.search" "search" ⟨[.ref p, .str x t], []⟩ >>= _) _ _ _
 unfold Builtin.Re.reTarget
 dsimp only
 rw [named_search]
 refine wpAny_bind (wpAny_bind (wpAny_pure ?_))
 dsimp only
 refine wpAny_bind (wpAny_pure (wpAny_bind (wpAny_pure (wpAny_bind ?_))))
 unfold fieldsOf
 refine wpAny_bind (wpAny_load hp (wpAny_pure ?_))
 refine wpAny_bind (wpAny_of_eq (a := (x.cps, 0)) rfl ?_)
 dsimp only
 rw [if_neg (by simp [Builtin.Re.reRawNat]), if_neg (by simp [Builtin.Re.reRawNat])]
 refine wpAny_bind (wpAny_of_eq (a := ()) rfl ?_)
 unfold Builtin.Re.reRawItems seqItems?
 refine wpAny_bind (wpAny_bind ?_)
 show wpAny _ _ (load c >>= _) _ _ _
 refine wpAny_bind (wpAny_load hc (wpAny_pure (wpAny_pure (wpAny_pure ?_))))
 unfold Builtin.Re.reAnswer
 refine wpAny_bind (run_failed hf (wpAny_pure ?_))
 exact q
noncomputable def names6 : List Str := [sz "f", sz "ff", sz "fi", sz "fl", sz "ffi", sz "ffl"]
noncomputable def pat (b : Bool) : Addr := bif b then 163 else 168
noncomputable def patCode (b : Bool) : Array Nat := (((seqOf (bif b then o162 else o167)).map Builtin.Re.reRawOf).map (·.toNat))
where seqOf (o : Obj) : Array Value := match o.data with
 | .seq xs _ => xs
 | _ => #[]
theorem names_clean (b : Bool) (x : Str) (hx : x ∈ names6) : isFailed (Sre.forSearch (patCode b) x.cps 0 (min (0 : Int).toNat x.cps.size) (min (2 ^ 63 - 1 : Int).toNat x.cps.size) false) = true := by
 simp only [names6, List.mem_cons, List.not_mem_nil, or_false] at hx
 rcases hx with rfl | rfl | rfl | rfl | rfl | rfl <;> cases b <;> decide +kernel
section
variable {w : World} {k : Nat} {sc : Scope} {ρ : Rho} {md m₁ : Md} {d : D} {e e₁ e₂ t : PySem.Expr} {pos p₁ p₂ p₃ pa pc : Pos} {K : Rho → Prop} {R : D → Prop}
noncomputable def EvW (w : World) (k : Nat) (sc : Scope) (ρ : Rho) (e : PySem.Expr) (v : Value) : Prop :=
 ∀ (A : Around) (c : Cx) (s : Shared) (Q : Value → Shared → Prop) (E : Value → Shared → Prop), Room A k → St w sc c s.heap ρ → (∀ s', Kps s s' → Q v s') → wpAny (model pr w) A (eval e c.env) Q E s
theorem evw_if {b : Bool} {v₁ v₂ : Value} (ht : Ts w k sc ρ t b) (h : EvV w k sc ρ e₁ v₁) (h' : EvV w k sc ρ e₂ v₂) : EvW w k sc ρ (.IfExp t e₁ e₂ pos) (bif b then v₁ else v₂) := fun A c s Q E R S q =>
 wpAny_IfExp (ht A c s _ _ R S fun s₁ p₁ => by
  cases b with
  | true => exact h A c s₁ _ _ R (S.kps p₁) (q s₁ p₁)
  | false => exact h' A c s₁ _ _ R (S.kps p₁) (q s₁ p₁))
theorem ex_search {ps pif : Pos} {r : Str} {b : Bool} {x : Str} {bad ss : List Stmt} (hr : EvW w k sc ρ e (.ref (pat b))) (u : Upd ρ r .hid ρ) (h : Ev w k sc ρ m₁ e₁ (.str x)) (hx : x ∈ names6) (hss : Ex w k sc ρ ss K R) (hst : isStore sc r = true := by kernel_rfl) (hv : isVar sc r = true := by kernel_rfl) (hs : PlainVal e r := by intro _ _ _; rfl) (hp : plainE e₁ = true := by rfl)
  (he : ∀ env, eval (.Call (.Attribute (.Name r p₂) (Str.ofString "search") pa) [e₁] [] pc) env = (do
   let ov ← eval (.Name r p₂) env
   standAt pa.atName
   let (f, first) ← holding [ov] (getMethod ov (Str.ofString "search") (do return (← importBound (.Name r p₂) env).getD true))
   callWith pc f first (backTo pc (starEach [e₁] env)) []) := by intro _; rfl)
  (hi : ∀ env whole, isTrue (.Call (.Attribute (.Name r p₂) (Str.ofString "search") pa) [e₁] [] pc) env whole = (do let v ← whole; standAt pc; holding [v] (truthy v)) := by intro _ _; rfl) :
  Ex w k sc ρ (.Assign [.Name r p₁] e ps :: .If (.Call (.Attribute (.Name r p₂) (Str.ofString "search") pa) [e₁] [] pc) bad [] pif :: ss) K R := fun A c s Q E Rm S q z => by
 refine wpAny_execs_cons (wpAny_Assign_Name (hr A c s _ _ Rm S fun s₁ z₁ => store (S.kps z₁) hst fun h' tk zz => ?_) (hs _ _ _))
 have S₁ := S.kps z₁
 have S₂ := zz.st S₁ u (by rintro _ _ e'; cases e') (by rintro _ _ e'; cases e') (by rintro _ _ e'; cases e') (by rintro _ _ e'; cases e')
 have X := (Ext.kps z₁).trans (zz.ext S₁ tk)
 refine bc fun gG => ?_
 obtain ⟨c₂, hc₂⟩ : ∃ c₂ : Cx, c₂ = { c with f := fun y => if y = r then some (.ref (pat b)) else c.f y } := ⟨_, rfl⟩
 rw [← hc₂] at S₂ X
 have hf : c₂.f r = some (.ref (pat b)) := by rw [hc₂]; exact if_pos rfl
 obtain ⟨h1, h2, h3⟩ := isVar.kind (s := { s₁ with heap := h', toks := tk }) S₂ hv
 refine gG ?_; clear gG
 rw [← X.env]
 refine bc fun gG => ?_
 obtain ⟨p0, f1, p3, p4, its, n, cc, hcT, hP, hC, hI⟩ : ∃ p0 f1 p3 p4 its n cc, cc ≠ TF ∧ (H1 w.params).get? (pat b) = some ⟨.type "re.Pattern", none, .fields #[p0, f1, .int 0 0, p3, p4, .ref cc, .int 0 0], #[]⟩ ∧ (H1 w.params).get? cc = some ⟨.type "tuple", none, .seq its n, #[]⟩ ∧ (its.map Builtin.Re.reRawOf).map (·.toNat) = patCode b := by
  cases b
  ·exact ⟨.str (Dom.S [91,92,120,48,48,45,92,120,48,56,92,120,48,65,45,92,120,49,70,92,120,55,70,93]) 2643, .int 32 2674, .none, .none, patCode.seqOf o167, 0, 167, by decide, by kernel_rfl, by kernel_rfl, rfl⟩
  ·exact ⟨.str (Dom.S [91,92,120,48,48,45,92,120,49,70,92,120,55,70,93]) 2617, .int 32 2640, .none, .none, patCode.seqOf o162, 0, 162, by decide, by kernel_rfl, by kernel_rfl, rfl⟩
 refine gG ?_; clear gG
 have pT : pat b ≠ TF := by cases b <;> decide
 have hP₂ := S₂.base.get _ _ pT (fun z => z) hP
 refine wpAny_execs_cons (wpAny_If (isTrue_plain (MethodCall_ (pl := do return (← importBound (.Name r p₂) c₂.env).getD true) (look S₂ h1 hf ?_ h2 h3) (he _)) (hi _ _)))
 refine getMethod_builtin ⟨_, hP₂, rfl⟩ plainAttrs_re slot_search type_search (fun a ea => by cases ea; exact ⟨_, hP₂, rfl⟩) ?_
 refine callWith_method1 (wpAny_items_cons ((h : Ev w k sc ρ m₁ e₁ (.str x)) A c₂ _ _ _ Rm S₂ fun v s₃ z₃ a₃ => wpAny_items_nil ?_) (starEach_plain hp)) (starEach_plain hp) rfl
 have S₃ := S₂.kps z₃
 refine a₃.cS fun t => ?_
 refine search_none (S₃.base.get _ _ pT (fun z => z) hP) (S₃.base.get _ _ hcT (fun z => z) hC) (by rw [hI]; exact names_clean b x hx) (truthy_none ?_)
 refine wpAny_execs_nil ?_
 have X₃ := X.trans (.kps z₃)
 exact hss A c₂ s₃ Q E Rm S₃ (fun c' s' ρ' y => q c' s' ρ' (X₃.trans y)) fun c' s' ρ' v d y => z c' s' ρ' v d (X₃.trans y)
end
theorem ofFn (w : World) (fa : Addr) (o : Obj) (e : (H1 w.params).get? fa = some o) (h : o.cls = .type "function") : ∀ o, (H1 w.params).get? fa = some o → o.cls = .type "function" := fun o' e' => by rw [e] at e'; cases e'; exact h
theorem M_conv (w : World) : MethAt w (sz "_convert_string_type") 198 (fdO o198) (bo (mt 1)) := ⟨F_conv w, by kernel_rfl, ofFn w 198 o198 (by kernel_rfl) rfl, ⟨none, by rw [typeLookup_type, builtinLookup_eq_fast]; kernel_rfl⟩, by decide⟩
theorem M_getall (w : World) : MethAt w (sz "get_all") 236 (fdO o236) (bo (mt 7)) := ⟨F_getall w, by kernel_rfl, ofFn w 236 o236 (by kernel_rfl) rfl, ⟨none, by rw [typeLookup_type, builtinLookup_eq_fast]; kernel_rfl⟩, by decide⟩
theorem M_keys (w : World) : MethAt w (sz "keys") 249 (fdO o249) (bo (mt 9)) := ⟨F_keys w, by kernel_rfl, ofFn w 249 o249 (by kernel_rfl) rfl, ⟨none, by rw [typeLookup_type, builtinLookup_eq_fast]; kernel_rfl⟩, by decide⟩
theorem M_values (w : World) : MethAt w (sz "values") 254 (fdO o254) (bo (mt 10)) := ⟨F_values w, by kernel_rfl, ofFn w 254 o254 (by kernel_rfl) rfl, ⟨none, by rw [typeLookup_type, builtinLookup_eq_fast]; kernel_rfl⟩, by decide⟩
theorem M_items (w : World) : MethAt w (sz "items") 261 (fdO o261) (bo (mt 11)) := ⟨F_items w, by kernel_rfl, ofFn w 261 o261 (by kernel_rfl) rfl, ⟨none, by rw [typeLookup_type, builtinLookup_eq_fast]; kernel_rfl⟩, by decide⟩
theorem M_add (w : World) : MethAt w (sz "add_header") 294 (fdO o294) (bo (mt 16)) := ⟨F_add w, by kernel_rfl, ofFn w 294 o294 (by kernel_rfl) rfl, ⟨none, by rw [typeLookup_type, builtinLookup_eq_fast]; kernel_rfl⟩, by decide⟩
theorem ev_lower {w : World} {k : Nat} {sc : Scope} {ρ : Rho} {m : Md} {y : Str} {e : PySem.Expr} {q1 q2 : Pos} {pl : Env → Sem Bool} (hy : y.length ≤ 10) (h : Ev w k sc ρ m e (.str y)) (he : ∀ env, eval (.Call (.Attribute e (sz "lower") q1) [] [] q2) env = (do
   let ov ← eval e env
   standAt q1.atName
   let (f, first) ← holding [ov] (getMethod ov (sz "lower") (pl env))
   callWith q2 f first (backTo q2 (starEach [] env)) []) := by intro _; rfl) : Ev w k sc ρ .flat (.Call (.Attribute e (sz "lower") q1) [] [] q2) (.str (Txt.lower y)) :=
  ev_me0 (pl := pl) h (fun s N v a => is_str a) PySem.F.plainAttrs_str PySem.F.slot_str_lower PySem.F.type_str_lower (bi_lower (by lia)) he
theorem ev_upper {w : World} {k : Nat} {sc : Scope} {ρ : Rho} {m : Md} {y : Str} {e : PySem.Expr} {q1 q2 : Pos} {pl : Env → Sem Bool} (hy : y.length ≤ 10) (h : Ev w k sc ρ m e (.str y)) (he : ∀ env, eval (.Call (.Attribute e (sz "upper") q1) [] [] q2) env = (do
   let ov ← eval e env
   standAt q1.atName
   let (f, first) ← holding [ov] (getMethod ov (sz "upper") (pl env))
   callWith q2 f first (backTo q2 (starEach [] env)) []) := by intro _; rfl) : Ev w k sc ρ .flat (.Call (.Attribute e (sz "upper") q1) [] [] q2) (.str (Txt.upper y)) :=
  ev_me0 (pl := pl) h (fun s N v a => is_str a) PySem.F.plainAttrs_str PySem.F.slot_str_upper PySem.F.type_str_upper (bi_upper (by lia)) he
theorem conv_ok (w : World) (k : Nat) (ds : List D) (x : Str) (hx : x ∈ names6) (b : Bool) : FnOK w (k + 1) 198 [.hdr ds, .str x] [(sz "name", .bool b)] (.str x) := by
 refine fn_ok (F_conv w) (hids := [sz "regex"]) (B_conv w _ _ _) rfl (by decide +kernel) (by kernel_rfl) ?_
 show Ex w k (sc (mt 1)) [(sz "self", .dat false (.hdr ds)), (sz "value", .dat false (.str x)), (sz "name", .dat false (.bool b)), (sz "regex", .hid)] (bo (mt 1)) _ _
 conv in bo (mt 1) => whnf
 refine ex_cons (es_if (K := fun _ => False) (ts_typeIs (T := "str") (T' := "str") evv_builtin (ev_dat m1) (fun s N v a => (is_str a).1) (by decide) evv_builtin) (fun _ => ?_) (fun h => by cases h)) fun _ z => z.elim
 have hif : ∀ b : Bool, (bif b then Value.ref 163 else Value.ref 168) = .ref (pat b) := fun b => by cases b <;> rfl
 exact ex_search (b := b) (x := x) (hif b ▸ evw_if (ts_bool (ev_dat m2)) evv_glob evv_glob) u3 (ev_dat m1) hx (ex_return (ev_dat m1) rfl)
theorem keys_ok (w : World) (k : Nat) (l : List (Str × Str)) (hl : l.length ≤ 1000) : FnOK w (k + 1) 249 [.hdr (l.map dStep)] [] (dStrs (l.map (·.1))) := by
 refine fn_ok (F_keys w) (hids := []) (B_keys w _) rfl (by decide +kernel) (by kernel_rfl) ?_
 show Ex w k (sc (mt 9)) [(sz "self", .dat false (.hdr (l.map dStep)))] (bo (mt 9)) _ _
 conv in bo (mt 9) => whnf
 refine ex_return (ev_comp (md := .fresh) (m₁ := .free) (l := l) (g := dStep) (out := fun p => some (D.str p.1)) [] [sz "k", sz "v"] (it_list (ev_hlist (ev_dat m0))) (fun p m => by cases m) (by kernel_rfl) (fun p hp => ?_) (by show _ ≤ 16777216; lia)) ?_
 ·exact ⟨_, bd_pair (f₁ := false) (f₂ := false) u0 u1, .hide (.hide .nil), ifs_nil, (ev_dat m0).up⟩
 ·show D.lst _ = dStrs _
  unfold dStrs
  rw [List.map_map, ← List.filterMap_eq_map]; rfl
theorem values_ok (w : World) (k : Nat) (l : List (Str × Str)) (hl : l.length ≤ 1000) : FnOK w (k + 1) 254 [.hdr (l.map dStep)] [] (dStrs (l.map (·.2))) := by
 refine fn_ok (F_values w) (hids := []) (B_values w _) rfl (by decide +kernel) (by kernel_rfl) ?_
 show Ex w k (sc (mt 10)) [(sz "self", .dat false (.hdr (l.map dStep)))] (bo (mt 10)) _ _
 conv in bo (mt 10) => whnf
 refine ex_return (ev_comp (md := .fresh) (m₁ := .free) (l := l) (g := dStep) (out := fun p => some (D.str p.2)) [] [sz "k", sz "v"] (it_list (ev_hlist (ev_dat m0))) (fun p m => by cases m) (by kernel_rfl) (fun p hp => ?_) (by show _ ≤ 16777216; lia)) ?_
 ·exact ⟨_, bd_pair (f₁ := false) (f₂ := false) u0 u1, .hide (.hide .nil), ifs_nil, (ev_dat m1).up⟩
 ·show D.lst _ = dStrs _
  unfold dStrs
  rw [List.map_map, ← List.filterMap_eq_map]; rfl
theorem lower6 (x : Str) (hx : x ∈ names6) : Txt.lower x = x := by
 simp only [names6, List.mem_cons, List.not_mem_nil, or_false] at hx
 rcases hx with rfl | rfl | rfl | rfl | rfl | rfl <;> decide +kernel
theorem upper6 (x : Str) (hx : x ∈ names6) : Txt.lower (Txt.upper x) = x ∧ (Txt.upper x).length ≤ 10 ∧ x.length ≤ 10 := by
 simp only [names6, List.mem_cons, List.not_mem_nil, or_false] at hx
 rcases hx with rfl | rfl | rfl | rfl | rfl | rfl <;> decide +kernel
noncomputable def allOf (l : List (Str × Str)) (x : Str) : List Str := (l.filter fun p => p.1 == x).map (·.2)
theorem getall_ok (w : World) (k : Nat) (l : List (Str × Str)) (hl : l.length ≤ 1000) (hn : ∀ p ∈ l, p.1 ∈ names6) (x : Str) (hx : x ∈ names6) : FnOK w (k + 2) 236 [.hdr (l.map dStep), .str (Txt.upper x)] [] (dStrs (allOf l x)) := by
 refine fn_ok (F_getall w) (hids := []) (B_getall w _ _) rfl (by decide +kernel) (by kernel_rfl) ?_
 show Ex w (k + 1) (sc (mt 7)) [(sz "self", .dat false (.hdr (l.map dStep))), (sz "name", .dat false (.str (Txt.upper x)))] (bo (mt 7)) _ _
 conv in bo (mt 7) => whnf
 obtain ⟨hlo, hl1, hl2⟩ := upper6 x hx
 have hcv : FnOK w (k + 1) 198 [.hdr (l.map dStep), .str (Txt.lower (Txt.upper x))] [(sz "name", .bool true)] (.str x) := by rw [hlo]; exact conv_ok w k _ x hx true
 refine ex_seq (es_assign (fr := true) (ev_methK (ev_dat m0) (M_conv w) (evl_cons (ev_lower hl1 (ev_dat m1)) evl_nil) ev_bool.up hcv) u1) ?_
 refine ex_return (ev_comp (md := .fresh) (m₁ := .free) (l := l) (g := dStep) (out := fun p => if p.1 == x then some (D.str p.2) else none) [(sz "name", .dat true (.str x))] [sz "kv"] (it_list (ev_hlist (ev_dat m0))) (fun p m => ?_) (by kernel_rfl) (fun p hp => ?_) (by show _ ≤ 16777216; lia)) ?_
 ·simp only [List.mem_cons, List.not_mem_nil, or_false] at m
  subst m; exact m1
 ·have hp6 := hn p hp
  refine ⟨_, bd_name (fr := false) u1, .keep (.hide .nil), ?_⟩
  refine step_one (b := p.1 == x) (r := .str p.2) (ts_cmp (ev_lower (y := p.1) (upper6 _ hp6).2.2 (ev_sub (ev_dat m1) ev_int (sub_tup (ds := [D.str p.1, D.str p.2]) (by lia) (by lia) rfl))) (ev_dat m0) ?_) (ev_sub (ev_dat m1) ev_int (sub_tup (ds := [D.str p.1, D.str p.2]) (by lia) (by lia) rfl)).up
  ·rw [lower6 _ hp6]; exact cmp_eqS
 ·show D.lst _ = dStrs _
  unfold dStrs allOf
  congr 1
  clear hl hcv
  induction l with
  | nil => rfl
  | cons p l ih =>
   have ih := ih (fun q m => hn q (.tail _ m))
   rw [List.filterMap_cons, List.filter_cons]
   cases h : p.1 == x
   ·simpa using ih
   ·simpa using ih
section
variable {w : World} {k : Nat} {fa : Addr} {fd : FuncData} {body : List Stmt} {ps hids : List Str} {A : Around} {s : Shared} {Q : Value → Shared → Prop} {E : Value → Shared → Prop} {vs zs : List Value} {kw : List (Str × Value)} {h' : Heap} {tk : Nat} {lvs : List LV}
theorem enterC (F : FnAt w fa fd body) (Rm : Room A (k + 1)) (S : SaysT w s.heap) (hB : ∀ (Q' : List (Str × Value) → Shared → Prop) E', Q' (ps.zip zs) { s with heap := h', toks := tk } → wpAny (model pr w) A.in1 (bindArgs fd ⟨vs, kw⟩) Q' E' s) (kp : Kp s.heap h')
  (hz : zs.length = ps.length) (hl : lvs.length = ps.length) (hn : (ps ++ hids).Nodup) (hs : (ps ++ hids).all (isStore fd.scope) = true) (hvl : HoldsL h' zs lvs)
  (h : ∀ cx s₁ E', Room (A.deeper cx.env) k → St w fd.scope cx s₁.heap (ps.zip lvs ++ hids.map fun x => (x, LV.hid)) → Entered s h' ps zs cx s₁ → wpAny (model pr w) (A.deeper cx.env) (execs body cx.env) (fun f s' => Q (match f with | .ret v => v | _ => .none) s') E' s₁)
  (hfr : (isFr fd.scope && !((match fd.code with | .ref a => a == 347 | _ => false) && fd.qualname ++ Str.ofString ".<locals>." == lamPre)) = false := by kernel_rfl) : codeAny (model pr w) A (.call (.ref fa) ⟨vs, kw⟩) (fun r s' => match r with | .ok (.ret v) => Q v s' | .ok _ => False | .error e => E e s') s :=
 enterG (Z := fun a b => a = zs ∧ b = h') F Rm S (fun Q' E' q => hB Q' E' (q zs h' tk ⟨rfl, rfl⟩)) (fun a b e => by obtain ⟨rfl, rfl⟩ := e; exact ⟨hz, kp, hvl⟩) hl hn hs (fun a b cx s₁ E' e R' St I => by obtain ⟨rfl, rfl⟩ := e; exact h cx s₁ E' R' St I) hfr
theorem enter (F : FnAt w fa fd body) (Rm : Room A (k + 1)) (S : SaysT w s.heap) (hB : ∀ (Q' : List (Str × Value) → Shared → Prop) E', Q' (ps.zip zs) { s with heap := h', toks := tk } → wpAny (model pr w) A.in1 (bindArgs fd ⟨vs, kw⟩) Q' E' s) (kp : Kp s.heap h')
  (hz : zs.length = ps.length) (hl : lvs.length = ps.length) (hn : (ps ++ hids).Nodup) (hs : (ps ++ hids).all (isStore fd.scope) = true) (hvl : HoldsL h' zs lvs)
  (h : ∀ cx s₁ E', Room (A.deeper cx.env) k → St w fd.scope cx s₁.heap (ps.zip lvs ++ hids.map fun x => (x, LV.hid)) → Entered s h' ps zs cx s₁ → wpAny (model pr w) (A.deeper cx.env) (execs body cx.env) (fun f s' => Q (match f with | .ret v => v | _ => .none) s') E' s₁)
  (hfr : (isFr fd.scope && !((match fd.code with | .ref a => a == 347 | _ => false) && fd.qualname ++ Str.ofString ".<locals>." == lamPre)) = false := by kernel_rfl) : wpAny (model pr w) A (call (.ref fa) vs kw) Q E s := wpAny_call (enterC F Rm S hB kp hz hl hn hs hvl h hfr)
end
theorem pick_all {α : Type} (l : List α) : pick l none none = l := by unfold pick; simp [kms_lo, kms_hi]
noncomputable abbrev emptyD : Obj := { cls := .type "dict", data := .dict #[] }
theorem dictAt_empty {w : World} {h : Heap} {a : Addr} (e : h.get? a = some emptyD) : h.DictAt (strKind pr w) a [] 0 :=
 ⟨emptyD, #[], e, ⟨rfl, rfl, rfl⟩, rfl, (fun x m => by simp at m), .nil, .nil⟩
noncomputable def dsize (o : Obj) : Nat := match o.data with
 | .dict es _ => es.size
 | _ => 0
section
variable {w : World} {k : Nat} {A : Around} {s : Shared} {Q : Value → Shared → Prop} {E : Value → Shared → Prop} {a i b : Addr}
theorem items_call {v : Value} {ds : List D} (Rm : Room A (k + 1)) (S : SaysT w s.heap) (hv : At s.heap anyN v (.hdr ds)) (hl : ds.length ≤ 1000) (q : ∀ v' s', Kps s s' → At s'.heap anyN v' (.lst ds) → Q v' s') : wpAny (model pr w) A (call (.ref 261) [v]) Q E s := by
 refine enter (k := k) (ps := [sz "self"]) (hids := []) (zs := [v]) (lvs := [.dat false (.hdr ds)]) (h' := s.heap) (tk := s.toks) (F_items w) Rm S (fun Q' E' q' => wpAny_of_eq (by kernel_rfl) q') (.refl _) rfl rfl (by decide +kernel) (by kernel_rfl) ?_ (fun cx s₁ E' R₁ S₁ I => ?_)
 ·exact .cons hv .nil
 ·conv in bo (mt 11) => whnf
  refine wpAny_execs_cons (wpAny_Return_some ((ev_sliceL (md := .any) (ev_hlist (ev_dat m0)) evo_none evo_none (by show _ ≤ 16777216; lia)) _ cx s₁ _ _ R₁ S₁ fun v' s' z a' => ?_))
  exact q v' s' (I.out (.refl _) (.kps z) (S₁.kps z)) (pick_all ds ▸ a'.weak fun _ n => n)
theorem es_forNone {sc : Scope} {ρ : Rho} {x : Str} {R : D → Prop} {target : PySem.Expr} {body : List Stmt} {p₁ pa pc pos : Pos} (hx : (x, .dat false (.opq emptyD)) ∈ ρ) (hv : isVar sc x = true := by kernel_rfl)
  (he : ∀ env, eval (.Call (.Attribute (.Name x p₁) (Str.ofString "items") pa) [] [] pc) env = (do
   let ov ← eval (.Name x p₁) env
   standAt pa.atName
   let (f, first) ← holding [ov] (getMethod ov (Str.ofString "items") (do return (← importBound (.Name x p₁) env).getD true))
   callWith pc f first (backTo pc (starEach [] env)) []) := by intro _; rfl)
  (hs : ∀ env x', foldedSetIterable (.Call (.Attribute (.Name x p₁) (Str.ofString "items") pa) [] [] pc) env x' = pure x' := by intro _ _; rfl) :
  Es w k sc ρ (.For target (.Call (.Attribute (.Name x p₁) (Str.ofString "items") pa) [] [] pc) body [] pos) (fun r => r = ρ) R := fun A c s Q E Rm S q r => by
 obtain ⟨h1, h2, h3⟩ := isVar.kind S hv
 obtain ⟨v, l, a⟩ := S.vals x _ hx
 revert l; refine a.cO fun pd hn e l => ?_
 refine wpAny_For (MethodCall_ (pl := do return (← importBound (.Name x p₁) c.env).getD true) (look S h1 l ?_ h2 h3) (he _)) (hs _)
 refine getMethod_builtin ⟨_, e, rfl⟩ PySem.F.plainAttrs_dict PySem.F.slot_dict_items PySem.F.type_dict_items (fun a' ea => by cases ea; exact ⟨_, e, rfl⟩) ?_
 have hsm : (pd == sysModules) = false := by
  refine beq_eq_false_iff_ne.mpr ?_
  rintro rfl
  have eo : (H1 w.params).get? sysModules = some (o1 w.params) := by kernel_rfl
  have h4 := S.base.get _ _ (by decide) (fun z => z) eo
  rw [e] at h4
  have h5 : dsize emptyD = dsize (o1 w.params) := congrArg dsize (Option.some.inj h4)
  have h6 : dsize (o1 w.params) ≠ 0 := by
   have : dsize (o1 w.params) = dsize (o1 P0) := by kernel_rfl
   rw [this]; decide +kernel
  exact h6 h5.symm
 refine callWith_method0 (call_meetsIn PySem.F.slot_dict_items ⟨_, e, rfl⟩ PySem.F.entry_dict_items (PySem.F.args_dict_items_1 _) (meets_dict_items (strKind pr w) pd hsm) ⟨⟨[], let ⟨o, es, e1, r⟩ := dictAt_empty (w := w) e; ⟨o, es, 0, e1, r⟩⟩, ?_⟩)
 let s₁ : Shared := { s with heap := s.heap.push { cls := Value.type "dict_items", data := Data.fields #[Value.ref pd] } }
 have z₁ : Kps s s₁ := .push _ _ _
 show wpAny (model pr w) A (pyIter (.ref s.heap.objs.size)) _ E s₁
 have e₁ : s₁.heap.get? pd = some emptyD := z₁.kp.get _ _ hn.ne (fun z => z) e
 refine wpAny_pyIter_items (knd := strKind pr w) (ep := 0) ⟨_, Heap.get?_push_size _ rfl, rfl, rfl⟩ (dictAt_empty e₁) ?_
 let s₂ : Shared := { s₁ with heap := s₁.heap.push { cls := .type "dict_itemiterator", data := .fields #[.none, .bool false, .ref pd, .int 0 0, .int (([] : List (Str × Value)).length : Nat) 0, .int (0 : Nat) 0, .none, .none] } }
 have z₂ : Kps s₁ s₂ := .push _ _ _
 have e₂ : s₂.heap.get? pd = some emptyD := z₂.kp.get _ _ hn.ne (fun z => z) e₁
 refine codeAny_forLoop_any (fun n s' => s' = s₂) (fun n s' es => ?_) 0 rfl
 subst es
 refine wpAny_pyNext_items_end (knd := strKind pr w) (kvs := []) (i := 0) (ep := 0) Rm.hh (Heap.get?_push_size _ rfl) (dictAt_empty e₂) rfl fun h' hk => ?_
 have z₃ : Kps s { s₂ with heap := h' } := .keeps fun b o eb => hk b o (by
  have h1 := (z₁.trans z₂).kp
  have hlt := Heap.lt_size eb
  have : s₁.heap.objs.size = s.heap.objs.size + 1 := Heap.size_push _ _
  show b ≠ s₁.heap.objs.size
  rw [this]; exact Nat.ne_of_lt (Nat.lt_succ_of_lt hlt)) (Heap.get?_push_of_some _ (Heap.get?_push_of_some _ eb))
 exact wpAny_execs_nil (q c _ ρ (.kps z₃) (S.kps z₃) rfl)
theorem run_es {sc : Scope} {ρ ρ' : Rho} {st : Stmt} {ss : List Stmt} {c : Cx} {Q : Flow → Shared → Prop} (h : Es w k sc ρ st (fun r => r = ρ') (fun _ => False)) (Rm : Room A k) (S : St w sc c s.heap ρ) (next : ∀ c' s', Ext c s c' s' → St w sc c' s'.heap ρ' → wpAny (model pr w) A (execs ss c'.env) Q E s') : wpAny (model pr w) A (execs (st :: ss) c.env) Q E s :=
 wpAny_execs_cons (h A c s _ _ Rm S (fun c' s' ρ₁ X S' e => by subst e; rw [← X.env]; exact next c' s' X S') (fun _ _ _ _ _ _ _ _ f => f.elim))
theorem lent_out {s₅ : Shared} {h₆ : Heap} {b : Addr} (Z : Kps s s₅) (hb : b ≠ TF) (nc : ∀ o, s.heap.get? b = some o → ¬ IsCode o) (hs : ∃ o, s.heap.get? b = some o) (sb : Heap.SameBut b s₅.heap h₆) : (∃ h t, ({ s₅ with heap := h₆ } : Shared) = { s with heap := h, toks := t }) ∧ KpX (fun z => z = b) s.heap h₆ ∧ (∀ M, TabOK s.heap M → TabOK h₆ (fun z => M z ∨ s.heap.get? z = none)) := by
 obtain ⟨h₅, t₅, e, kp⟩ := id Z
 refine ⟨⟨h₆, t₅, by rw [e]⟩, ⟨fun a o ne nb e => (sb.2 a nb).trans (Z.kp.get a o ne (fun z => z) e), fun o vs e d => ?_⟩, fun M x => ?_⟩
 ·obtain ⟨m, e'⟩ := Z.kp.tab o vs e d
  exact ⟨m, (sb.2 TF (Ne.symm hb)).trans e'⟩
 ·refine (Z.kp.tk M x).map (fun o e => (sb.2 TF (Ne.symm hb)).trans e) fun a o ne kc n e => ⟨(sb.2 a ?_).trans e, n⟩
  rintro rfl
  obtain ⟨ob, eb⟩ := hs
  have := Z.kp.get _ _ hb (fun z => z) eb
  rw [this] at e; cases e
  exact nc _ eb kc
theorem join1 (v : Str) (hv : v ∈ names6) : JoinOk (sz "; ") [v] = true ∧ Txt.join (sz "; ") [v] = v := by
 simp only [names6, List.mem_cons, List.not_mem_nil, or_false] at hv
 rcases hv with rfl | rfl | rfl | rfl | rfl | rfl <;> decide +kernel
theorem ev_join {sc : Scope} {ρ : Rho} {m : Md} {sep res : Str} {l : List Str} {e : PySem.Expr} {n : Nat} {p1 p2 p4 : Pos} {pl : Env → Sem Bool} (hok : JoinOk sep l = true) (hr : Txt.join sep l = res) (h : Ev w k sc ρ m e (.lst (l.map D.str))) (hp : plainE e = true := by rfl)
  (he : ∀ env, eval (.Call (.Attribute (.Constant (.str sep) n p1) (sz "join") p2) [e] [] p4) env = (do
   let ov ← eval (.Constant (.str sep) n p1) env
   standAt p2.atName
   let (f, first) ← holding [ov] (getMethod ov (sz "join") (pl env))
   callWith p4 f first (backTo p4 (starEach [e] env)) []) := by intro _; rfl) : Ev w k sc ρ .flat (.Call (.Attribute (.Constant (.str sep) n p1) (sz "join") p2) [e] [] p4) (.str res) :=
 hr ▸ ev_me1 (pl := pl) ev_str h (fun s N v a => is_str a) PySem.F.plainAttrs_str PySem.F.slot_str_join PySem.F.type_str_join (bi_join (l := l) hok) hp he
theorem add_call {us : List Value} {l : List D} {n v : Str} {t t' : Tok} {N : Addr → Prop} (Rm : Room A (k + 2)) (S : SaysT w s.heap) (ha : a ≠ TF) (hi : i ≠ TF) (hb : b ≠ TF) (hh : HdrIs s.heap a i b) (hp : s.heap.PlainList b us.toArray) (hN : ∀ z, N z → z ≠ TF ∧ z ≠ b) (hat : AtL s.heap N us l) (hl : l.length ≤ 1000) (hn : n ∈ names6) (hv : v ∈ names6)
  (q : ∀ s' us', (∃ h t, s' = { s with heap := h, toks := t }) → KpX (fun z => z = b) s.heap s'.heap → (∀ M, TabOK s.heap M → TabOK s'.heap (fun z => M z ∨ s.heap.get? z = none)) → s'.heap.PlainList b us'.toArray → AtL s'.heap (fun z => N z ∨ s.heap.get? z = none) us' (l ++ [dStep (n, v)]) → Q .none s') :
  wpAny (model pr w) A (call (.ref 294) [.ref a, .str n t, .str v t']) Q E s := by
 let h' : Heap := s.heap.push emptyD
 have kp : Kp s.heap h' := .of fun b o e => Heap.get?_push_of_some _ e
 have newP : h'.get? s.heap.objs.size = some emptyD := Heap.get?_push_size _ rfl
 have hself : At h' anyN (.ref a) (.hdr l) := (show At s.heap anyN (.ref a) (.hdr l) from .hdr ha hi hb hh hp.isList (hat.weak fun z n => (hN z n).1)).kp kp.toKpX fun z n => ⟨n, fun x => x⟩
 have nP : s.heap.objs.size ≠ TF := by intro e; obtain ⟨o, vs, e', _⟩ := tab_here S; rw [← e, get_end] at e'; cases e'
 refine enter (k := k + 1) (ps := [sz "self", sz "_name", sz "_value", sz "_params"]) (hids := [sz "parts", sz "k", sz "v"]) (zs := [.ref a, .str n t, .str v t', .ref s.heap.objs.size]) (lvs := [.val (.ref a) (.hdr l), .dat false (.str n), .dat false (.str v), .dat false (.opq emptyD)]) (h' := h') (tk := s.toks) (F_add w) Rm S (fun Q' E' q' => ?_) kp rfl rfl (by decide +kernel) (by kernel_rfl) ?_ (fun cx s₁ E' R₁ S₁ I => ?_)
 ·have e : bindArgs (fdO o294) ⟨[.ref a, .str n t, .str v t'], []⟩ = (do let d ← alloc emptyD; pure [(sz "self", .ref a), (sz "_name", .str n t), (sz "_value", .str v t'), (sz "_params", .ref d)]) := by kernel_rfl
  rw [e]
  exact wpAny_bind (wpAny_alloc (wpAny_pure q'))
 ·exact .cons ⟨rfl, hself⟩ (.cons (.str _ _) (.cons (.str _ _) (.cons (.opq nP newP) .nil)))
 ·conv in bo (mt 16) => whnf
  let ρ₁ : List D → LV → Rho := fun p y => [(sz "self", .val (.ref a) (.hdr l)), (sz "_name", .dat false (.str n)), (sz "_value", y), (sz "_params", .dat false (.opq emptyD)), (sz "parts", .own false p), (sz "k", .hid), (sz "v", .hid)]
  refine run_es (ρ' := ρ₁ [] (.dat false (.str v))) (es_new (ds := []) (md := .fresh) evl_nil u4) R₁ S₁ fun c₂ s₂ X₂ S₂ => ?_
  refine run_es (ρ' := ρ₁ [.str v] (.dat true (.str v))) (es_if (ts_cmp (ev_dat m2) ev_none (cmp_isNot_no rfl)) (fun _ => ex_seq (es_assign (fr := true) (ev_methK (ev_val m0) (M_conv w) (evl_cons (ev_dat m2) evl_nil) ev_bool.up (conv_ok w k _ v hv false)) u2) (ex_seq (es_append (ev_dat m2) m4 u4 (Nat.zero_le _)) (ex_nil rfl))) (fun h => by cases h)) R₁ S₂ fun c₃ s₃ X₃ S₃ => ?_
  refine run_es (ρ' := ρ₁ [.str v] (.dat true (.str v))) (es_forNone m3) R₁ S₃ fun c₄ s₄ X₄ S₄ => ?_
  have X := (X₂.trans X₃).trans X₄
  have Z₄ := I.out kp X S₄
  have hh₄ : HdrIs s₄.heap a i b := hh.map (fun o e => Z₄.kp.get a o ha (fun z => z) e) (fun o e => Z₄.kp.get i o hi (fun z => z) e)
  obtain ⟨nb, hob⟩ := id hp
  have ncb : ∀ o, s.heap.get? b = some o → ¬ IsCode o := fun o e => by rw [hob] at e; cases e; exact noFields fun _ z => by cases z
  refine wpAny_execs_cons (wpAny_Expr ?_ (by show (c₄.env.scope.kind == ScopeKind.module && _) = false; rw [S₄.scp, S₄.fn]; rfl) rfl)
  have R₄ : Room (A.deeper cx.env) (k + 1) := R₁
  refine MethodCall_ (Attribute_any_ ((evv_val m0 : EvV w (k + 1) (sc (mt 16)) _ _ _) _ c₄ s₄ _ _ R₄ S₄ (hdr_attr S₄.base hh₄ ?_)) (by with_unfolding_all rfl)) rfl
  let s₅ : Shared := { s₄ with toks := s₄.toks + 1 }
  have z₅ : Kps s₄ s₅ := .toks _ _
  have S₅ := S₄.kps z₅
  refine noLine (s := s₅) (Z₄.kp.get b _ hb (fun z => z) hob) rfl rfl PySem.F.slot_list_append PySem.F.type_list_append ?_
  refine callWith_method1 ?_ (starEach_plain rfl) rfl
  obtain ⟨j1, j2⟩ := join1 v hv
  refine wpAny_items_cons ((ev_tuple (md := .fresh) (evl_cons (ev_methK (ev_val m0) (M_conv w) (evl_cons (ev_dat m1) evl_nil) ev_bool.up (conv_ok w k _ n hn true)) (evl_cons (ev_join (l := [v]) (res := v) j1 j2 (ev_own m4)) evl_nil)) : Ev w (k + 1) (sc (mt 16)) (ρ₁ [.str v] (.dat true (.str v))) .fresh _ (.tup [.str n, .str v])) _ c₄ s₅ _ _ R₄ S₅ fun u s₆ z₆ a₆ => wpAny_items_nil ?_) (starEach_plain rfl)
  have Z := (Z₄.trans z₅).trans z₆
  have p₆ : s₆.heap.PlainList b us.toArray := ⟨nb, Z.kp.get b _ hb (fun z => z) hob⟩
  refine wpAny_list_append_plain p₆ (fun h₇ pl sb => ?_) (by rw [List.size_toArray, hat.length]; show _ ≤ 16777216; lia)
  obtain ⟨o1, o2, o3⟩ := lent_out Z hb ncb ⟨_, hob⟩ sb
  have e : us.toArray.push u = (us ++ [u]).toArray := by simp
  rw [e] at pl
  refine wpAny_execs_nil (q _ _ o1 o2 o3 pl ?_)
  refine ((hat.here).map fun z o n e => ⟨o2.get z o (hN z n.1).1 (hN z n.1).2 e, .inl n.1⟩).append (.cons ?_ .nil)
  refine a₆.map fun z o n e => ?_
  have hz : s.heap.get? z = none := by
   have := n.2.2
   rw [X.F, I.F] at this
   cases e0 : s.heap.get? z with
   | none => rfl
   | some o => exact no this (kp.get z o n.1 (fun z => z) e0)
  exact ⟨(sb.2 z (by exact ne_oo hz hob)).trans e, .inr hz⟩
end
section
variable {α : Type} {prog : Program} {w : World} {A : Around} {E : Value → Shared → Prop} {s : Shared}
theorem setAll {l sl src : Addr} {xs ys : Array Value} {n : Nat} {Q : Unit → Shared → Prop} (ho : s.heap.get? l = some { cls := .type "list", dict := none, data := .seq xs n, slots := #[] }) (hs : s.heap.IsSliceOf sl .none .none .none) (hy : s.heap.IsList src ys) (hx : xs.size ≤ 1000) (hyz : ys.size ≤ 1000)
  (q : ∀ h', h'.PlainList l ys → Heap.SameBut l s.heap h' → Q () { s with heap := h' }) : wpAny (model prog w) A (setItem (.ref l) (.ref sl) (.ref src)) Q E s := by
 have hl : s.heap.IsList l xs := ⟨_, ho, rfl, n, rfl⟩
 obtain ⟨os, hos, hcs, hds⟩ := id hs
 obtain ⟨oy, hoy, hcy, ny, hdy⟩ := id hy
 have hTs : s.TypeIs (.ref sl) "slice" := ⟨os, hos, hcs⟩
 have hTy : s.TypeIs (.ref src) "list" := ⟨oy, hoy, hcy⟩
 unfold setItem
 try with_reducible refine wpAny_holding ?_
 refine wpAny_bind (wpAny_sequenceKey hl.typeIs (by decide) ?_)
 refine wpAny_bind (wpAny_callSpecial?_slot (name := Str.ofString "__setitem__") hl.typeIs slot_list_setitem
  (wpAny_call_entry slot_list_setitem hl.typeIs entry_list_setitem ?_ (args_list_setitem _ _ _)))
 show wpAny _ _ (Builtin.List.listSubscript? (.ref sl) >>= _) _ _ s
 refine wpAny_bind ?_
 unfold Builtin.List.listSubscript?
 refine wpAny_bind (wpAny_specialOf hTs slice_no_index ?_)
 simp only [Option.isNone_none, if_true]
 refine wpAny_pure ?_
 show wpAny _ _ (typeOf (.ref sl) >>= _) _ _ s
 refine wpAny_bind (wpAny_typeOf hTs ?_)
 rw [if_neg (by decide)]
 rw [listSliceParts_eq]
 refine wpAny_bind (wpAny_bind (wpAny_field hos hds (x := .none) rfl (wpAny_bind (wpAny_listPart .none ?_))))
 rw [if_neg (show ¬ ((rawPart none == rawInt 0) = true) from Bool.false_ne_true)]
 refine wpAny_bind (wpAny_field hos hds (x := .none) rfl (wpAny_bind (wpAny_listPart .none ?_)))
 refine wpAny_bind (wpAny_field hos hds (x := .none) rfl (wpAny_bind (wpAny_listPart .none (wpAny_pure ?_))))
 have items : ∀ {a : Addr} {o : Obj} {its : Array Value} {n : Nat} {Q : Array Value → Shared → Prop} {A : Around} {E : Value → Shared → Prop}, s.heap.get? a = some o → o.data = .seq its n → Q its s → wpAny (model prog w) A (Builtin.List.listItems (.ref a)) Q E s := fun ho hd h => by
  unfold Builtin.List.listItems
  exact wpAny_bind (wpAny_seqItems ho hd (wpAny_pure h))
 cases hsame : Builtin.List.listSameRef (.ref l) (.ref src)
 ·rw [if_neg Bool.false_ne_true]
  refine wpAny_bind (m := Builtin.List.listAllItems (.ref src) _) ?_
  unfold Builtin.List.listAllItems
  refine wpAny_bind (wpAny_typeOf hTy ?_)
  rw [if_pos (by decide)]
  show wpAny _ _ (Builtin.List.listItems (.ref src)) _ _ _
  refine items hoy hdy ?_
  refine wpAny_bind (items ho rfl ?_)
  refine wpAny_bind (wpAny_of_eq (sliceIndices_raw none none none xs.size (by intro z; cases z)) ?_)
  have hb : sliceBounds none none none xs.size = (0, (xs.size : Int), 1) := rfl
  rw [hb]
  rw [if_pos (by rfl)]
  refine wpAny_bind (wpAny_rule ?_)
  have hlong : Builtin.List.listTooLong (xs.size + ys.size) = false := by
   unfold Builtin.List.listTooLong
   have : ¬ (xs.size + ys.size > 16777216) := by lia
   exact decide_eq_false this
  rw [hlong, if_neg Bool.false_ne_true]
  have ef : (fun zs : Array Value => zs.extract 0 (0 : Int).toNat ++ ys ++ zs.extract (max (0 : Int) (xs.size : Int)).toNat zs.size) xs = ys := by
   have : (max (0 : Int) (xs.size : Int)).toNat = xs.size := by lia
   simp [this]
  refine wpAny_bind (wpAny_updateSeq ho rfl ?_ (by show _ ≤ 16777216; lia) ?_)
  ·refine wpAny_bind (wpAny_letGo (wpAny_pure ⟨_, rfl, wpAny_pure (q _ ?_ (Heap.SameBut.update ..))⟩))
   obtain ⟨m, U⟩ : ∃ m, IsL _ l _ m := ⟨_, PySem.IsL.update (n := n) ho (fun zs : Array Value => zs.extract 0 (0 : Int).toNat ++ ys ++ zs.extract (max (0 : Int) (xs.size : Int)).toNat zs.size)⟩
   dsimp only at ef
   rw [ef] at U
   exact ⟨m, U⟩
  ·dsimp only at ef ⊢
   rw [ef]; show _ ≤ 16777216 + 1; lia
 ·rw [if_pos rfl]
  refine wpAny_bind (items hoy hdy ?_)
  refine wpAny_bind (items ho rfl ?_)
  refine wpAny_bind (wpAny_of_eq (sliceIndices_raw none none none xs.size (by intro z; cases z)) ?_)
  have hb : sliceBounds none none none xs.size = (0, (xs.size : Int), 1) := rfl
  rw [hb]
  rw [if_pos (by rfl)]
  refine wpAny_bind (wpAny_rule ?_)
  have hlong : Builtin.List.listTooLong (xs.size + ys.size) = false := by
   unfold Builtin.List.listTooLong
   have : ¬ (xs.size + ys.size > 16777216) := by lia
   exact decide_eq_false this
  rw [hlong, if_neg Bool.false_ne_true]
  have ef : (fun zs : Array Value => zs.extract 0 (0 : Int).toNat ++ ys ++ zs.extract (max (0 : Int) (xs.size : Int)).toNat zs.size) xs = ys := by
   have : (max (0 : Int) (xs.size : Int)).toNat = xs.size := by lia
   simp [this]
  refine wpAny_bind (wpAny_updateSeq ho rfl ?_ (by show _ ≤ 16777216; lia) ?_)
  ·refine wpAny_bind (wpAny_letGo (wpAny_pure ⟨_, rfl, wpAny_pure (q _ ?_ (Heap.SameBut.update ..))⟩))
   obtain ⟨m, U⟩ : ∃ m, IsL _ l _ m := ⟨_, PySem.IsL.update (n := n) ho (fun zs : Array Value => zs.extract 0 (0 : Int).toNat ++ ys ++ zs.extract (max (0 : Int) (xs.size : Int)).toNat zs.size)⟩
   dsimp only at ef
   rw [ef] at U
   exact ⟨m, U⟩
  ·dsimp only at ef ⊢
   rw [ef]; show _ ≤ 16777216 + 1; lia
theorem steps_apart {h : Heap} {N : Addr → Prop} {b : Addr} {xs : Array Value} {f : α → Str} {g : α → Str} (p : h.PlainList b xs) : ∀ {vs : List Value} {l : List α}, AtL h N vs (l.map fun x => .tup [.str (f x), .str (g x)]) → AtL h (fun z => N z ∧ z ≠ b) vs (l.map fun x => .tup [.str (f x), .str (g x)])
 | _, [], .nil => .nil
 | _, x :: l, .cons a r => .cons (by
  refine a.cT fun z vs n ht r' => ?_
  refine .tup ⟨n, ?_⟩ ht (r'.flatten rfl)
  rintro rfl
  obtain ⟨m, e⟩ := p
  obtain ⟨o, e', c, _⟩ := ht
  rw [e] at e'; cases e'; simp at c) (steps_apart p r)
end
noncomputable def without (l : List (Str × Str)) (x : Str) : List (Str × Str) := l.filter fun p => p.1 != x
section
variable {w : World} {k : Nat} {A : Around} {s : Shared} {Q : Value → Shared → Prop} {E : Value → Shared → Prop} {a i b : Addr}
theorem del_call {us : List Value} {l : List (Str × Str)} {x : Str} {t : Tok} {N : Addr → Prop} (Rm : Room A (k + 2)) (S : SaysT w s.heap) (ha : a ≠ TF) (hi : i ≠ TF) (hb : b ≠ TF) (hh : HdrIs s.heap a i b) (hp : s.heap.PlainList b us.toArray) (hN : ∀ z, N z → z ≠ TF ∧ z ≠ b) (hat : AtL s.heap N us (l.map dStep)) (hl : l.length ≤ 1000) (hn : ∀ p ∈ l, p.1 ∈ names6) (hx : x ∈ names6)
  (q : ∀ s' us', (∃ h t, s' = { s with heap := h, toks := t }) → KpX (fun z => z = b) s.heap s'.heap → (∀ M, TabOK s.heap M → TabOK s'.heap (fun z => M z ∨ s.heap.get? z = none)) → s'.heap.PlainList b us'.toArray → AtL s'.heap (fun z => z ≠ TF ∧ z ≠ b) us' ((without l x).map dStep) → Q .none s') :
  wpAny (model pr w) A (call (.ref 217) [.ref a, .str (Txt.upper x) t]) Q E s := by
 have hself : At s.heap anyN (.ref a) (.hdr (l.map dStep)) := .hdr ha hi hb hh hp.isList (hat.weak fun z n => (hN z n).1)
 obtain ⟨hlo, hl1, hl2⟩ := upper6 x hx
 have hcv : FnOK w (k + 1) 198 [.hdr (l.map dStep), .str (Txt.lower (Txt.upper x))] [(sz "name", .bool true)] (.str x) := by rw [hlo]; exact conv_ok w k _ x hx true
 refine enter (k := k + 1) (ps := [sz "self", sz "name"]) (hids := []) (zs := [.ref a, .str (Txt.upper x) t]) (lvs := [.val (.ref a) (.hdr (l.map dStep)), .dat false (.str (Txt.upper x))]) (h' := s.heap) (tk := s.toks) (F_del w) Rm S (fun Q' E' q' => wpAny_of_eq (by kernel_rfl) q') (.refl _) rfl rfl (by decide +kernel) (by kernel_rfl) ?_ (fun cx s₁ E' R₁ S₁ I => ?_)
 ·exact .cons ⟨rfl, hself⟩ (.cons (.str _ _) .nil)
 ·conv in bo (mt 4) => whnf
  let ρ₁ : LV → Rho := fun y => [(sz "self", .val (.ref a) (.hdr (l.map dStep))), (sz "name", y)]
  refine run_es (ρ' := ρ₁ (.dat true (.str x))) (es_assign (fr := true) (ev_methK (ev_val m0) (M_conv w) (evl_cons (ev_lower hl1 (ev_dat m1)) evl_nil) ev_bool.up hcv) u1) R₁ S₁ fun c₂ s₂ X₂ S₂ => ?_
  obtain ⟨nb, hob⟩ := id hp
  have ncb : ∀ o, s.heap.get? b = some o → ¬ IsCode o := fun o e => by rw [hob] at e; cases e; exact noFields fun _ z => by cases z
  refine wpAny_execs_cons (wpAny_Assign_Subscript ((ev_comp (md := .free) (m₁ := .free) (l := l) (g := dStep) (out := fun p => if p.1 != x then some (dStep p) else none) [(sz "name", .dat true (.str x))] [sz "kv"] (it_list (ev_hlist (ev_val m0))) (fun p m => ?_) (by kernel_rfl) (fun p hp => ?_) (by show _ ≤ 16777216; lia) : Ev w (k + 1) (sc (mt 4)) (ρ₁ (.dat true (.str x))) .free _ _) _ c₂ s₂ _ _ R₁ S₂ fun u s₃ z₃ a₃ => ?_) rfl)
  ·simp only [List.mem_cons, List.not_mem_nil, or_false] at m
   subst m; exact m1
  ·have hp6 := hn p hp
   refine ⟨_, bd_name (fr := false) u1, .keep (.hide .nil), ?_⟩
   refine step_one (b := p.1 != x) (r := dStep p) (ts_cmp (ev_lower (y := p.1) (upper6 _ hp6).2.2 (ev_sub (ev_dat m1) ev_int (sub_tup (ds := [D.str p.1, D.str p.2]) (by lia) (by lia) rfl))) (ev_dat m0) ?_) (ev_dat m1)
   rw [lower6 _ hp6]; exact cmp_neS
  ·have S₃ := S₂.kps z₃
   have Z := I.out (.refl _) (X₂.trans (.kps z₃)) S₃
   have hh₃ : HdrIs s₃.heap a i b := hh.map (fun o e => Z.kp.get a o ha (fun z => z) e) (fun o e => Z.kp.get i o hi (fun z => z) e)
   refine Attribute_any_ ((evv_val m0 : EvV w (k + 1) (sc (mt 4)) (ρ₁ (.dat true (.str x))) _ _) _ c₂ s₃ _ _ R₁ S₃ (hdr_attr S₃.base hh₃ ?_)) (by with_unfolding_all rfl)
   have hds : (l.filterMap fun p => if p.1 != x then some (dStep p) else none) = (without l x).map dStep := by
    unfold without
    clear hcv hself hat hl q S₁ S₂ a₃ S₃ I X₂ S hn
    induction l with
    | nil => rfl
    | cons p l ih =>
     rw [List.filterMap_cons, List.filter_cons]
     cases h : p.1 != x
     ·simpa using ih
     ·simpa using ih
   rw [hds] at a₃
   let s₄ : Shared := { s₃ with toks := s₃.toks + 1 }
   let s₅ : Shared := { s₄ with heap := s₄.heap.push { cls := .type "slice", data := .fields #[.none, .none, .none] } }
   have z₄ : Kps s₃ s₄ := .toks _ _
   have z₅ : Kps s₄ s₅ := .push _ _ _
   have a₅ := (a₃.kps z₄).kps z₅
   have Z₅ := (Z.trans z₄).trans z₅
   refine wpAny_Slice (wpAny_pure (wpAny_pure (wpAny_pure ?_)))
   show wpAny _ _ (setItem (.ref b) (.ref s₄.heap.objs.size) u) _ _ s₅
   refine a₅.cL fun src vs hns hil r => ?_
   have p₅ : s₅.heap.PlainList b us.toArray := ⟨nb, Z₅.kp.get b _ hb (fun z => z) hob⟩
   have r' := steps_apart (f := fun p : Str × Str => p.1) (g := fun p : Str × Str => p.2) p₅ r
   have hlen : vs.length ≤ 1000 := by
    rw [r.length, List.length_map]
    exact Nat.le_trans (List.length_filter_le _ _) hl
   refine setAll (Z₅.kp.get b _ hb (fun z => z) hob) (Heap.IsSliceOf.new _ _ _ _) hil (by rw [List.size_toArray, hat.length, List.length_map]; exact hl) (by rw [List.size_toArray]; exact hlen) fun h₆ pl sb => ?_
   obtain ⟨o1, o2, o3⟩ := lent_out Z₅ hb ncb ⟨_, hob⟩ sb
   refine wpAny_execs_nil (q _ _ o1 o2 o3 pl ?_)
   exact r'.map fun z o n e => ⟨(sb.2 z n.2).trans e, n.1.1, n.2⟩
end
section
variable {w : World} {A : Around} {s : Shared} {E : Value → Shared → Prop} {a i b : Addr}
theorem HdrIs.obj {h : Heap} (x : HdrIs h a i b) : ∃ o, h.get? a = some o ∧ o.cls = .ref 297 := let ⟨o, _, e, c, _⟩ := x; ⟨o, e, c⟩
theorem typeOf_hdr {h : Heap} {o : Obj} {Q : Value → Shared → Prop} (e : s.heap.get? a = some o) (c : o.cls = .ref 297) (q : Q (.ref 297) s) : wpAny (model pr w) A (typeOf (.ref a)) Q E s := by
 unfold typeOf
 refine wpAny_bind (wpAny_load e ?_)
 rw [c]
 exact wpAny_pure q
theorem delItem_hdr {kv : Value} {fa : Addr} {of : Obj} {Q : Unit → Shared → Prop} (X : SaysT w s.heap) (x : HdrIs s.heap a i b) (hm : (H1 w.params).nsMap 296 (Str.ofString "__delitem__") = some (.ref fa)) (hfo : (H1 w.params).get? fa = some of) (hfc : of.cls = .type "function") (hT : fa ≠ TF)
  (h : wpAny (model pr w) A (call (.ref fa) [.ref a, kv]) (fun _ => Q ()) E s) : wpAny (model pr w) A (delItem (.ref a) kv) Q E s := by
 obtain ⟨nm, q', bs, sn, sub, col, dd, k0, k1, k2, k3, k5, hC⟩ := cls297 X
 obtain ⟨o, e, c⟩ := x.obj
 have hfo' := X.get _ _ hT (fun z => z) hfo
 have n296 := ns296 X
 obtain ⟨hp, g, d, t, os⟩ := s
 unfold delItem
 try with_reducible refine wpAny_holding ?_
 refine wpAny_bind ?_
 unfold sequenceKey
 refine wpAny_bind (typeOf_hdr (h := hp) e c ?_)
 show wpAny _ _ (List.anyM (fun n => isSubtype (Value.ref 297) (Value.type n)) seqItemTypes >>= _) _ _ _
 refine wpAny_bind ?_
 show wpAny _ _ (isSubtype (.ref 297) (.type "collections.deque") >>= _) _ _ _
 refine wpAny_bind (wpAny_isSubtype_exc hC ?_)
 rw [show ((Value.ref 297 :: [Value.type "object"]).contains (Value.type "collections.deque")) = false from by decide]
 show wpAny _ _ (pure false) _ _ _
 refine wpAny_pure ?_
 refine wpAny_pure ?_
 refine wpAny_bind ?_
 unfold callSpecial? specialOf
 refine wpAny_bind (wpAny_bind (typeOf_hdr (h := hp) e c (wpAny_typeLookup_exc (B := "object") hC n296 (by kernel_rfl) (y := none) (by rw [typeLookup_type, builtinLookup_eq_fast]; kernel_rfl) ?_)))
 rw [hm]
 refine wpAny_holding ?_
 unfold bindSpecial
 refine wpAny_bind (wpAny_bind (wpAny_typeOf (T := "function") ⟨_, hfo', hfc⟩ ?_))
 rw [if_pos (by decide)]
 refine wpAny_pure (wpAny_bind (wpAny_mono h (fun v s' hq => wpAny_pure (wpAny_pure hq)) fun _ _ z => z))
theorem del_sub {env : Env} {o i : PySem.Expr} {p : Pos} {pos : Pos} {Q : Flow → Shared → Prop} (h : wpAny (model pr w) A (eval o env) (fun ov s₁ => wpAny (model pr w) A (eval i env) (fun iv s₂ => wpAny (model pr w) A (delItem ov iv) (fun _ => Q .next) E s₂) E s₁) E s) : wpAny (model pr w) A (exec (.Delete [.Subscript o i p] pos) env) Q E s := by
 refine wpAny_Delete (wpAny_deleteEach_cons ?_)
 show wpAny _ _ (do
  let ov ← eval o env
  let iv ← holding [ov] (eval i env)
  standAt p
  holding [ov, iv] (delItem ov iv)
  release [ov, iv] []) _ _ _
 refine wpAny_bind (wpAny_mono h (fun ov s₁ h₁ => wpAny_bind (wpAny_holding (wpAny_mono h₁ (fun iv s₂ h₂ => wpAny_bind (wpAny_standAt (wpAny_bind (wpAny_holding (wpAny_mono h₂ (fun _ s₃ h₃ => ?_) fun _ _ z => z))))) fun _ _ z => z))) fun _ _ z => z)
 exact wpAny_release (wpAny_deleteEach_nil h₃)
end
theorem HdrIs.uniq {h : Heap} {a i b i' b' : Addr} (x : HdrIs h a i b) (y : HdrIs h a i' b') : i' = i ∧ b' = b := by
 refine bc fun gG => ?_
 obtain ⟨o, oi, ho, _, hi, _, hoi, _, _, es, n, hd, _, _, f⟩ := x
 obtain ⟨o', oi', ho', _, hi', _, hoi', _, _, es', n', hd', _, _, f'⟩ := y
 refine gG ?_; clear gG
 rw [ho] at ho'; cases ho'
 rw [hi] at hi'; cases hi'
 rw [hoi] at hoi'; cases hoi'
 rw [hd] at hd'; cases hd'
 have h1 := f (Str.ofString "_headers")
 have h2 := f' (Str.ofString "_headers")
 rw [if_pos rfl] at h1 h2
 rw [h1] at h2
 cases h2
 exact ⟨rfl, rfl⟩
theorem steps_where {α : Type} {h : Heap} {N P : Addr → Prop} {f g : α → Str} (hP : ∀ z vs, N z → h.IsTuple z vs → P z) : ∀ {vs : List Value} {l : List α}, AtL h N vs (l.map fun x => .tup [.str (f x), .str (g x)]) → AtL h P vs (l.map fun x => .tup [.str (f x), .str (g x)])
 | _, [], .nil => .nil
 | _, x :: l, .cons a r => .cons (by
  refine a.cT fun z vs n ht r' => ?_
  exact .tup (hP z _ n ht) ht (r'.flatten rfl)) (steps_where hP r)
section
variable {w : World} {sc : Scope} {c : Cx} {h h₂ : Heap} {a i b : Addr} {us us' : List Value}
theorem St.restart {x : Str} {rest : Rho} {ds : List D} {l : List (Str × Str)} (S : St w sc c h ((x, .val (.ref a) (.hdr ds)) :: rest)) (hrest : ∀ p ∈ rest, p.2 = .hid) (hfr : isFr sc = false) (hb : b ≠ TF) (hb0 : (H1 w.params).get? b = none) (hh : HdrIs h a i b)
  (kx : KpX (fun z => z = b) h h₂) (tk : ∀ M, TabOK h M → TabOK h₂ (fun z => M z ∨ h.get? z = none)) (p : h.PlainList b us.toArray) (p₂ : h₂.PlainList b us'.toArray) (al : AtL h₂ anyN us' (l.map fun p => .tup [.str p.1, .str p.2])) :
  ∃ c₂ : Cx, c₂.env = c.env ∧ c₂.h₀ = h₂ ∧ St w sc c₂ h₂ ((x, .val (.ref a) (.hdr (l.map fun p => .tup [.str p.1, .str p.2]))) :: rest) ∧ (∀ z, c₂.mu z → c.mu z) := by
 obtain ⟨lx, ax⟩ := S.vals x _ (.head _)
 obtain ⟨na, ni, nb⟩ : c.N .free a ∧ c.N .free i ∧ c.N .free b := by
  refine ax.cH1 fun i' b' _ na ni nb hh' il al' => ?_
  obtain ⟨rfl, rfl⟩ := hh.uniq hh'; exact ⟨na, ni, nb⟩
 have base : SaysT w h₂ := S.base.step kx (fun z e => e ▸ hb0) tk
 let mu₂ : Addr → Prop := fun z => z = c.env.locals ∨ ∃ y, c.env.kindOf y = some .cell ∧ sc.names.lookup (Str.ofString ".0") = none ∧ c.env.cells.lookup y = some z
 have sub : ∀ z, mu₂ z → c.mu z := by
  rintro z (rfl | ⟨y, hk, h0, hl⟩)
  ·exact S.mutL
  ·exact S.mutC y z h0 hk hl
 have nmb : ∀ z, c.mu z → z ≠ b := fun z m e => nb.2 (.inl (e ▸ m))
 have h1n : ∀ z, c.mu z → (H1 w.params).get? z = none := fun z m => by
  obtain ⟨n, _, q⟩ := S.mutO z m
  rcases q with q | q
  ·cases e : (H1 w.params).get? z with
   | none => rfl
   | some o => exact no q (S.base₀.get z o n (fun z => z) e)
  ·exact (S.hM z q).1
 obtain ⟨m, nsm, em⟩ := S.vars.ns
 have ns₂ : h₂.Ns c.env.locals m := nsm.at' fun o eo => kx.get _ o (S.mutO _ S.mutL).1 (nmb _ S.mutL) eo
 have cel₂ : ∀ y, c.env.kindOf y = some .cell ∨ c.env.kindOf y = some .free → ∃ z, c.env.cells.lookup y = some z ∧ z ≠ TF ∧ h₂.IsCell z (c.f y) := fun y q => by
  obtain ⟨z, e, n, ic⟩ := S.vars.cel y q
  have ne : z ≠ b := Ne.symm (PlainL.ne p (.inr ⟨_, ic⟩))
  obtain ⟨o, eo, d⟩ := ic
  exact ⟨z, e, n.1, o, kx.get z o n.1 ne eo, d⟩
 have notTup : ∀ z vs, mu₂ z → ¬ h₂.IsTuple z vs := by
  rintro z vs (rfl | ⟨y, hk, h0, hl⟩) ⟨o, e, _, _, d⟩
  ·obtain ⟨o', es, ep, e', d', _⟩ := ns₂; rw [e] at e'; cases e'; rw [d] at d'; cases d'
  ·obtain ⟨z', e', _, o', eo, d'⟩ := cel₂ y (.inl hk)
   rw [hl] at e'; cases e'
   rw [e] at eo; cases eo; rw [d] at d'; cases d'
 have notCode : ∀ z o, mu₂ z → h₂.get? z = some o → ¬ IsCode o := by
  rintro z o (rfl | ⟨y, hk, h0, hl⟩) e ⟨ws, t, d, _⟩
  ·obtain ⟨o', es, ep, e', d', _⟩ := ns₂; rw [e] at e'; cases e'; rw [d] at d'; cases d'
  ·obtain ⟨z', e', _, o', eo, d'⟩ := cel₂ y (.inl hk)
   rw [hl] at e'; cases e'
   rw [e] at eo; cases eo; rw [d] at d'; cases d'
 let c₂ : Cx := { c with h₀ := h₂, mu := mu₂, M := mu₂, F := fun _ => True, hid := fun _ => False, lk := fun _ => False }
 have free₂ : ∀ z, z ≠ TF → ¬ mu₂ z → c₂.N .free z := fun z n q => ⟨n, fun r => r.elim q fun r => r.elim (fun z => z) fun z => z⟩
 refine ⟨c₂, rfl, rfl, ⟨base, .refl _ _, fun z q => ⟨h1n z (sub z q), q⟩, fun _ _ => trivial, S.scp, S.fn, S.glo, S.blt, .inl rfl, fun y z h0 hk hl => .inr ⟨y, hk, h0, hl⟩, fun z q => ?_, ⟨⟨m, ns₂, em⟩, fun y q => ?_, S.vars.inj⟩, S.nodup, fun y l' q => ?_, fun y y' sh sh' d1 d2 q => ?_, fun z q => q.elim, fun z q => q.elim, fun N x => ?_, fun z => by rw [hfr] at z; cases z⟩, sub⟩
 ·obtain ⟨n, ⟨o, e⟩, _⟩ := S.mutO z (sub z q)
  exact ⟨n, ⟨o, kx.get z o n (nmb z (sub z q)) e⟩, .inr q⟩
 ·obtain ⟨z, e, n, ic⟩ := cel₂ y q
  exact ⟨z, e, ⟨n, fun z => z⟩, ic⟩
 ·cases q with
  | head =>
   refine ⟨lx, ?_⟩
   have hh₂ : HdrIs h₂ a i b := by
    have hp := p
    obtain ⟨mb, eb⟩ := hp
    obtain ⟨o, oi, ho, hc, hi, hpl, hoi, hd⟩ := id hh
    have nab : a ≠ b := by rintro rfl; rw [eb] at ho; cases ho; cases hpl
    have nib : i ≠ b := by rintro rfl; rw [eb] at hoi; cases hoi; obtain ⟨hcl, _⟩ := hd; simp at hcl
    exact hh.map (fun o e => kx.get a o na.1 nab e) (fun o e => kx.get i o ni.1 nib e)
   refine .hdr (free₂ a na.1 fun q => na.2 (.inl (sub a q))) (free₂ i ni.1 fun q => ni.2 (.inl (sub i q))) (free₂ b nb.1 fun q => nb.2 (.inl (sub b q))) hh₂ p₂.isList ?_
   exact steps_where (f := fun p : Str × Str => p.1) (g := fun p : Str × Str => p.2) (fun z vs n t => free₂ z n fun q => notTup z vs q t) al
  | tail _ q => have := hrest _ q; dsimp only at this; subst this; trivial
 ·cases q with
  | tail _ q => have := hrest _ q; cases this
 ·refine x.here.weak fun z ne n => ⟨.inl n.1, fun q => ?_⟩
  obtain ⟨_, o, e, k⟩ := n
  rcases q with q | q | q
  ·exact notCode z o q e k
  ·exact q
  ·exact q
end
noncomputable def freeOf (l : List (Str × Str)) : List Str := (l.map (·.1)).filter fun n => !(l.map (·.2)).contains n
inductive Emp : List (Str × Str) → Bool → Prop
 | stop {l : List (Str × Str)} : freeOf l = [] → Emp l l.isEmpty
 | step {l : List (Str × Str)} {x : Str} {xs : List Str} {r : Bool} : freeOf l = x :: xs → Emp (without l x) r → Emp l r
theorem free_mem {l : List (Str × Str)} {x : Str} {xs : List Str} (h : freeOf l = x :: xs) : ∃ p ∈ l, p.1 = x := by
 have : x ∈ freeOf l := by rw [h]; exact .head _
 unfold freeOf at this
 obtain ⟨p, hp, e⟩ := List.mem_map.mp (List.mem_filter.mp this).1
 exact ⟨p, hp, e⟩
theorem without_lt {l : List (Str × Str)} {x : Str} (h : ∃ p ∈ l, p.1 = x) : (without l x).length < l.length := by
 obtain ⟨p, hp, e⟩ := h
 unfold without
 have h1 := List.length_filter_le (fun p : Str × Str => p.1 != x) l
 rcases Nat.lt_or_eq_of_le h1 with h2 | h2
 ·exact h2
 ·have := List.length_filter_eq_length_iff.mp h2 p hp
  simp [e] at this
theorem ok6 (x : Str) (hx : x ∈ names6) : PyData.strOk x = true := by
 simp only [names6, List.mem_cons, List.not_mem_nil, or_false] at hx
 rcases hx with rfl | rfl | rfl | rfl | rfl | rfl <;> decide +kernel
section
variable {w : World} {k : Nat} {A : Around} {s : Shared} {Q : Value → Shared → Prop} {E : Value → Shared → Prop} {a i b : Addr}
theorem ev_items {sc : Scope} {ρ : Rho} {m : Md} {o : PySem.Expr} {pos pa : Pos} {ds : List D} {pl : Env → Sem Bool} (h : Ev w (k + 1) sc ρ m o (.hdr ds)) (hl : ds.length ≤ 1000)
  (he : ∀ env, eval (.Call (.Attribute o (sz "items") pa) [] [] pos) env = (do
   let ov ← eval o env
   standAt pa.atName
   let (f, first) ← holding [ov] (getMethod ov (sz "items") (pl env))
   callWith pos f first (backTo pos (starEach [] env)) []) := by intro _; rfl) : Ev w (k + 1) sc ρ .any (.Call (.Attribute o (sz "items") pa) [] [] pos) (.lst ds) := fun A c s Q E R S q =>
 MethodCall_ (h A c s _ _ R S fun v s₁ z₁ a₁ => by
  have S₁ := S.kps z₁
  obtain ⟨ob, ho, hd⟩ := (M_items w).fn.obj
  refine a₁.cH fun _ _ _ _ na ni nb hh il al => ?_
  have a₁' : At s₁.heap (c.N _) _ (.hdr _) := .hdr na ni nb hh il al
  refine (M_items w).get S₁.base hh (callWith_meth0 hd (S₁.base.get _ _ (M_items w).fn.ne (fun z => z) ho) ?_)
  exact items_call R S₁.base (a₁'.weak fun _ n => n.ne) hl fun v' s' z₂ a₂ => q v' s' (z₁.trans z₂) a₂) (he _)
noncomputable def rhoE (a : Addr) (l : List (Str × Str)) (ends free : LV) : Rho := [(sz "table", .val (.ref a) (.hdr (l.map dStep))), (sz "ends", ends), (sz "free", free)]
theorem strs_ok : ∀ l : List Str, (∀ x ∈ l, x ∈ names6) → (l.map D.str).all (D.ok 0) = true := fun l h => List.all_eq_true.mpr fun d m => by
 obtain ⟨x, hx, rfl⟩ := List.mem_map.mp m
 show D.ok 0 (.str x) = true
 rw [D.ok]; exact ok6 x (h x hx)
theorem steps_ok6 : ∀ l : List (Str × Str), (∀ p ∈ l, p.1 ∈ names6 ∧ p.2 ∈ names6) → (l.map dStep).all (D.ok 1) = true := fun l h => List.all_eq_true.mpr fun d m => by
 obtain ⟨p, hp, rfl⟩ := List.mem_map.mp m
 show D.ok 1 (.tup [.str p.1, .str p.2]) = true
 rw [D.ok]
 simp only [List.all_cons, List.all_nil, Bool.and_true, Bool.and_eq_true]
 exact ⟨by rw [D.ok]; exact ok6 _ (h p hp).1, by rw [D.ok]; exact ok6 _ (h p hp).2⟩
theorem freeOf_sub {l : List (Str × Str)} (hn : ∀ p ∈ l, p.1 ∈ names6 ∧ p.2 ∈ names6) : ∀ x ∈ freeOf l, x ∈ names6 := fun x hx => by
 unfold freeOf at hx
 obtain ⟨p, hp, e⟩ := List.mem_map.mp (List.mem_filter.mp hx).1
 exact e ▸ (hn p hp).1
theorem emptied_call {us : List Value} {l : List (Str × Str)} {r : Bool} (Rm : Room A (k + 3)) (S : SaysT w s.heap) (ha : a ≠ TF) (hi : i ≠ TF) (hb : b ≠ TF) (hb0 : (H1 w.params).get? b = none) (hh : HdrIs s.heap a i b) (hp : s.heap.PlainList b us.toArray) (hat : AtL s.heap anyN us (l.map dStep)) (hl : l.length ≤ 1000) (hn : ∀ p ∈ l, p.1 ∈ names6 ∧ p.2 ∈ names6) (he : Emp l r)
  (q : ∀ s', (∃ h t, s' = { s with heap := h, toks := t }) → KpX (fun z => z = b) s.heap s'.heap → (∀ M, TabOK s.heap M → TabOK s'.heap (fun z => M z ∨ s.heap.get? z = none)) → (∃ us' : List Value, s'.heap.PlainList b us'.toArray) → Q (.bool r) s') :
  wpAny (model pr w) A (call (.ref 375) [.ref a]) Q E s := by
 have hself : At s.heap anyN (.ref a) (.hdr (l.map dStep)) := .hdr ha hi hb hh hp.isList hat
 refine enter (k := k + 2) (ps := [sz "table"]) (hids := [sz "ends", sz "free"]) (zs := [.ref a]) (lvs := [.val (.ref a) (.hdr (l.map dStep))]) (h' := s.heap) (tk := s.toks) (F_emptied w) Rm S (fun Q' E' q' => wpAny_of_eq (by kernel_rfl) q') (.refl _) rfl rfl (by decide +kernel) (by kernel_rfl) (.cons ⟨rfl, hself⟩ .nil) (fun cx s₁ E' R₁ S₁ I => ?_)
 conv in bo (st 83) => whnf
 have nab : ∀ z o, s.heap.get? z = some o → (z = a ∨ z = i) → z ≠ b := fun z o e hz => by
  rintro rfl
  refine bc fun gG => ?_
  obtain ⟨mb, eb⟩ := hp
  obtain ⟨o₁, oi, ho, hc, hi', hpl, hoi, hd⟩ := id hh
  refine gG ?_; clear gG
  rcases hz with rfl | rfl
  ·rw [eb] at ho; cases ho; cases hpl
  ·rw [eb] at hoi; cases hoi; obtain ⟨hcl, _⟩ := hd; simp at hcl
 have hdrOf : ∀ h, KpX (fun z => z = b) s.heap h → HdrIs h a i b := fun h kx => hh.map (fun o e => kx.get a o ha (nab a o e (.inl rfl)) e) (fun o e => kx.get i o hi (nab i o e (.inr rfl)) e)
 let J : Nat → Shared → Prop := fun n s' => ∃ (l' : List (Str × Str)) (c' : Cx) (us' : List Value), Emp l' r ∧ l'.length = n ∧ (∀ p ∈ l', p.1 ∈ names6 ∧ p.2 ∈ names6) ∧ l'.length ≤ 1000 ∧ c'.env = cx.env ∧ c'.h₀ = s'.heap ∧ St w (sc (st 83)) c' s'.heap (rhoE a l' .hid .hid) ∧ (∀ z, c'.mu z → s.heap.get? z = none) ∧ s'.heap.PlainList b us'.toArray ∧ (∃ h t, s' = { s with heap := h, toks := t }) ∧ KpX (fun z => z = b) s.heap s'.heap ∧ (∀ M, TabOK s.heap M → TabOK s'.heap (fun z => M z ∨ s.heap.get? z = none))
 have J0 : J l.length s₁ := by
  have Z := I.out (.refl _) (.refl cx s₁) S₁
  have p₁ : s₁.heap.PlainList b us.toArray := hp.at fun o e => Z.kp.get b o hb (fun z => z) e
  obtain ⟨c₂, e1, e2, S₂, e3⟩ := S₁.restart (l := l) (rest := [(sz "ends", .hid), (sz "free", .hid)]) (by intro p m; simp only [List.mem_cons, List.not_mem_nil, or_false] at m; rcases m with rfl | rfl <;> rfl) (by kernel_rfl) hb hb0 (hdrOf _ Z.kp.to) (.refl _ _) (fun M x => x.weak fun a ne n => .inl n) p₁ p₁ (hat.kp Z.kp.toKpX fun z n => ⟨n, fun x => x⟩)
  exact ⟨l, c₂, us, he, rfl, hn, hl, e1, e2, S₂, fun z m => I.mu z (e3 z m), p₁, I.sh, Z.kp.to, fun M x => Z.kp.tk M x⟩
 refine wpAny_execs_cons (wpAny_While (codeAny_whileLoop J (fun n s' hJ => ?_) l.length J0))
 refine bc fun gG => ?_
 obtain ⟨l', c', us', he', hlen, hn', hl', henv, hh0, S', hmu, hp', hsh, hkx, htk⟩ := hJ
 refine gG ?_; clear gG
 have after : ∀ {c'' : Cx} {s'' : Shared} {ρ : Rho}, Ext c' s' c'' s'' → St w (sc (st 83)) c'' s''.heap ρ → (∃ h t, s'' = { s with heap := h, toks := t }) ∧ KpX (fun z => z = b) s.heap s''.heap ∧ (∀ M, TabOK s.heap M → TabOK s''.heap (fun z => M z ∨ s.heap.get? z = none)) := fun {c'' s'' ρ} X S'' => by
  refine bc fun gG => ?_
  obtain ⟨h1, t1, e1⟩ := hsh
  obtain ⟨h2, t2, e2⟩ := X.sh
  refine gG ?_; clear gG
  refine ⟨⟨h2, t2, by rw [e2, e1]⟩, ⟨fun z o ne nb e => X.kp.get z o ne (fun m => by exact no (hmu z m) e) (hkx.get z o ne nb e), fun o vs e d => ?_⟩, fun M x => ?_⟩
  ·obtain ⟨m, e'⟩ := hkx.tab o vs e d
   refine bc fun gG => ?_
   obtain ⟨m', e''⟩ := X.kp.tab _ _ e' rfl
   refine gG ?_; clear gG
   exact ⟨m ++ m', by rw [e'', Array.append_assoc]⟩
  ·have t := S''.tabO
   rw [X.h₀, hh0] at t
   refine (t _ (htk M x)).weak fun z ne n => ?_
   rcases n.1 with n | n
   ·exact n
   ·right
    cases e : s.heap.get? z with
    | none => rfl
    | some o =>
     by_cases hz : z = b
     ·subst hz; obtain ⟨m, e'⟩ := hp'; exact no n e'
     ·exact no n (hkx.get z o ne hz e)
 refine isTrue_plain (wpAny_Constant_bool (wpAny_truthy_bool ?_)) rfl
 rw [if_pos rfl]
 rw [← henv]
 have R' : Room (A.deeper c'.env) (k + 2) := by rw [henv]; exact R₁
 refine run_es (ρ' := rhoE a l' (.dat true (dStrs (l'.map (·.2)))) .hid) (es_assign (fr := true) (ev_meth0 (ev_val m0) (M_values w) (values_ok w (k + 1) l' hl')) u1) R' S' fun c₂ s₂ X₂ S₂ => ?_
 have hlk : (l'.map (·.1)).length ≤ 1000 := by rw [List.length_map]; exact hl'
 have hfree : (l'.map (·.1)).filterMap (fun nm => if !(l'.map (·.2)).contains nm then some (D.str nm) else none) = (freeOf l').map D.str := filterMap_if _ _ _
 refine run_es (ρ' := rhoE a l' (.dat true (dStrs (l'.map (·.2)))) (.dat true (.lst ((freeOf l').map .str)))) (es_comp (hrs := hfree) (fr := true) (m₁ := .fresh) (l := l'.map (·.1)) (g := D.str) (out := fun nm => if !(l'.map (·.2)).contains nm then some (D.str nm) else none) [(sz "ends", .dat true (dStrs (l'.map (·.2))))] [sz "name"] (it_list (ev_meth0 (ev_val m0) (M_keys w) (keys_ok w (k + 1) l' hl'))) (caps1 m1) (by kernel_rfl) (fun nm hnm => ⟨_, bd_name (fr := false) u1, .keep (.hide .nil), step_one (ts_cmp (ev_dat m1) (ev_dat m0) cmp_notInS) (ev_dat m1).up⟩) (by show _ ≤ 16777216; lia) u2 (by kernel_rfl)) R' S₂ fun c₃ s₃ X₃ S₃ => ?_
 have F6 := freeOf_sub hn'
 refine wpAny_execs_cons ((es_if (K := fun r => r = rhoE a l' (.dat true (dStrs (l'.map (·.2)))) (.dat true (dStrs (freeOf l'))) ∧ freeOf l' ≠ []) (R := fun d => d = .bool l'.isEmpty ∧ freeOf l' = []) (b := decide (freeOf l' = [])) (ts_cmp (ev_dat m2) (ev_list (md := .fresh) evl_nil) (cmp_eqD 1 (by show D.ok 1 (.lst _) = true; rw [D.ok]; exact strs_ok _ F6) (by rfl) ?_)) (fun h => ?_) (fun h => ex_nil ⟨rfl, by simpa using h⟩)) _ c₃ s₃ _ _ R' S₃ (fun c₄ s₄ ρ₄ X₄ S₄ e => ?_) (fun c₄ s₄ ρ₄ v d X₄ S₄ a₄ e => ?_))
 ·rw [decide_eq_true_eq]
  constructor
  ·intro e; rw [e]; rfl
  ·intro e
   have e' : (freeOf l').map D.str = [] := D.lst.inj e
   exact List.map_eq_nil_iff.mp e'
 ·have hf : freeOf l' = [] := by simpa using h
  refine ex_return (ev_cmp (ev_items (ev_val m0) (by rw [List.length_map]; exact hl')) (ev_list (md := .fresh) evl_nil) (cmp_eqD (b := l'.isEmpty) 2 (by rw [D.ok]; exact steps_ok6 _ hn') (by rfl) ?_)) ⟨rfl, hf⟩
  cases l' with
  | nil => exact ⟨fun _ => rfl, fun _ => rfl⟩
  | cons p l' => exact ⟨(fun z => by cases z), (fun z => by cases z)⟩
 ·obtain ⟨rfl, hne⟩ := e
  refine bc fun gG => ?_
  obtain ⟨x, xs, hx⟩ : ∃ x xs, freeOf l' = x :: xs := by
   cases h : freeOf l' with
   | nil => exact absurd h hne
   | cons x xs => exact ⟨x, xs, rfl⟩
  have x6 : x ∈ names6 := F6 x (by rw [hx]; exact .head _)
  obtain ⟨hlo, hl1, hl2⟩ := upper6 x x6
  have X := ((X₂.trans X₃).trans X₄)
  obtain ⟨o1, o2, o3⟩ := after X S₄
  refine gG ?_; clear gG
  rw [← X₄.env]
  refine wpAny_execs_cons (del_sub ((evv_val m0 : EvV w (k + 2) (sc (st 83)) (rhoE a l' (.dat true (dStrs (l'.map (·.2)))) (.dat true (dStrs (freeOf l')))) _ _) _ c₄ s₄ _ _ R' S₄ ((ev_upper hl2 (ev_sub (ev_dat m2) ev_int (sub_list (d := .str x) (by lia) (by lia) (by rw [hx]; rfl))) : Ev w (k + 2) (sc (st 83)) (rhoE a l' (.dat true (dStrs (l'.map (·.2)))) (.dat true (dStrs (freeOf l')))) .flat _ _) _ c₄ s₄ _ _ R' S₄ fun u s₅ z₅ a₅ => ?_)))
  have S₅ := S₄.kps z₅
  have X₅ := X.trans (.kps z₅)
  refine bc fun gG => ?_
  obtain ⟨p1, p2, p3⟩ := after X₅ S₅
  refine gG ?_; clear gG
  refine a₅.cS fun t₅ => ?_
  refine bc fun gG => ?_
  obtain ⟨od, hod, hdd⟩ := (F_del w).obj
  refine gG ?_; clear gG
  have hh₅ : HdrIs s₅.heap a i b := hdrOf _ p2
  refine delItem_hdr S₅.base hh₅ (by kernel_rfl) hod (ofFn w 217 o217 (by kernel_rfl) rfl od hod) (F_del w).ne ?_
  refine bc fun gG => ?_
  obtain ⟨_, at₅⟩ := S₅.vals _ _ (.head _)
  refine gG ?_; clear gG
  have keyL : ∃ us₅ : List Value, s₅.heap.PlainList b us₅.toArray ∧ AtL s₅.heap (c₄.N .free) us₅ (l'.map dStep) := by
   refine at₅.cH1 fun i' b' vs na ni nb hh' il al => ?_
   refine bc fun gG => ?_
   obtain ⟨rfl, rfl⟩ := hh₅.uniq hh'
   refine gG ?_; clear gG
   have pb : s₅.heap.PlainList b' us'.toArray := by
    refine hp'.at fun o e => X₅.kp.get b' o hb (fun m => ?_) e
    have := hmu b' m
    refine bc fun gG => ?_
    obtain ⟨mb, eb⟩ := hp
    refine gG ?_; clear gG
    exact no this eb
   have eu : vs = us' := by
    refine bc fun gG => ?_
    obtain ⟨m, e⟩ := pb
    obtain ⟨o, eo, _, m', d⟩ := il
    refine gG ?_; clear gG
    rw [e] at eo; cases eo
    have := (Data.seq.inj d).1
    exact (congrArg Array.toList this).symm
   exact ⟨us', pb, eu ▸ al⟩
  refine bc fun gG => ?_
  obtain ⟨us₅, pl₅, al₅⟩ := keyL
  refine gG ?_; clear gG
  have al₅' : AtL s₅.heap (fun z => z ≠ TF ∧ z ≠ b) us₅ (l'.map dStep) := (steps_apart (f := fun p : Str × Str => p.1) (g := fun p : Str × Str => p.2) pl₅ al₅).weak fun z n => ⟨n.1.1, n.2⟩
  refine del_call (l := l') (N := fun z => z ≠ TF ∧ z ≠ b) R' S₅.base ha hi hb hh₅ pl₅ (fun z n => n) al₅' hl' (fun p hp => (hn' p hp).1) x6 fun s₆ us₆ sh₆ kx₆ tk₆ pl₆ al₆ => ?_
  obtain ⟨c₇, e1, e2, S₇, e3⟩ := (S₅.weak (ρ' := rhoE a l' .hid .hid) (.keep (.hide (.hide .nil)))).restart (l := without l' x) (rest := [(sz "ends", .hid), (sz "free", .hid)]) (by intro p m; simp only [List.mem_cons, List.not_mem_nil, or_false] at m; rcases m with rfl | rfl <;> rfl) (by kernel_rfl) hb hb0 hh₅ kx₆ tk₆ pl₅ pl₆ (al₆.weak fun z n => n.1)
  refine wpAny_execs_nil ⟨(without l' x).length, hlen ▸ without_lt (free_mem hx), without l' x, c₇, us₆, ?_, rfl, fun p hp => hn' p (List.mem_filter.mp hp).1, Nat.le_trans (List.length_filter_le _ _) hl', ?_, e2, S₇, fun z m => ?_, pl₆, ?_, ?_, ?_⟩
  ·cases he' with
   | stop h => rw [hx] at h; cases h
   | step h e => rw [hx] at h; cases h; exact e
  ·rw [e1, X₅.env, henv]
  ·have m := e3 z m
   rcases X₅.new z m with m | ⟨m, n⟩
   ·exact hmu z m
   ·cases e : s.heap.get? z with
    | none => rfl
    | some o =>
     by_cases hz : z = b
     ·subst hz; obtain ⟨mm, e'⟩ := hp'; exact no m e'
     ·exact no m (hkx.get z o n hz e)
  ·obtain ⟨h1, t1, e1⟩ := p1
   refine bc fun gG => ?_
   obtain ⟨h2, t2, e2⟩ := sh₆
   refine gG ?_; clear gG
   exact ⟨h2, t2, by rw [e2, e1]⟩
  ·exact p2.trans kx₆
  ·intro M x
   refine (tk₆ _ (p3 M x)).weak fun z ne n => ?_
   rcases n with n | n
   ·exact n
   ·right
    cases e : s.heap.get? z with
    | none => rfl
    | some o =>
     by_cases hz : z = b
     ·subst hz; obtain ⟨mm, e'⟩ := pl₅; exact no n e'
     ·exact no n (p2.get z o ne hz e)
 ·obtain ⟨rfl, hf⟩ := e
  refine bc fun gG => ?_
  obtain ⟨o1, o2, o3⟩ := after ((X₂.trans X₃).trans X₄) S₄
  refine gG ?_; clear gG
  cases a₄ with
  | bool _ =>
  have hr : l'.isEmpty = r := by
   cases he' with
   | stop h => rfl
   | step h e => rw [hf] at h; cases h
  have pl₄ : s₄.heap.PlainList b us'.toArray := by
   refine hp'.at fun o e => ((X₂.trans X₃).trans X₄).kp.get b o hb (fun m => ?_) e
   have := hmu b m
   refine bc fun gG => ?_
   obtain ⟨mb, eb⟩ := hp
   refine gG ?_; clear gG
   exact no this eb
  exact hr ▸ q s₄ o1 o2 o3 ⟨us', pl₄⟩
end
section
variable {l : List (Nat × Nat)} {b g i : Nat} {v : List Nat}
theorem mem_headsOf {x w : Nat} : x ∈ headsOf l w ↔ (x, w) ∈ l := by
 unfold headsOf
 rw [List.mem_map]
 constructor
 ·rintro ⟨⟨p, q⟩, h, rfl⟩
  rw [List.mem_filter] at h
  obtain ⟨h1, h2⟩ := h
  simp only [beq_iff_eq] at h2
  have : q = w := by lia
  subst this; exact h1
 ·intro h
  exact ⟨(x, w), List.mem_filter.mpr ⟨h, by simp⟩, rfl⟩
theorem alike_iff {hs : List Nat} : alike hs = true ↔ ∀ x ∈ hs, x = hs.headD 0 := by
 unfold alike
 rw [beq_iff_eq]
 generalize hs.headD 0 = c
 induction hs with
 | nil => simp
 | cons y ys ih =>
  simp only [List.map_cons, List.cons.injEq, List.mem_cons, forall_eq_or_imp, ih]
theorem GraphOK.head (G : GraphOK b l v) {x : Nat} (hx : x ∈ v) : ∃ u, (u, x) ∈ l := by
 obtain ⟨u, _, m⟩ := (G.reach x hx).last fun e => G.nb (e ▸ hx)
 exact ⟨u, m⟩
theorem ready_one (G : GraphOK b l v) (h : (g, i) ∈ readyOf l v) : g ∈ v ∧ One l b g i := by
 unfold readyOf at h
 obtain ⟨w, hw, e⟩ := List.mem_filterMap.mp h
 split at e
 ·rename_i al
  cases e
  have al := alike_iff.mp al
  obtain ⟨u, hu⟩ := G.head hw
  have e1 := al u (mem_headsOf.mpr hu)
  refine ⟨hw, fun e => G.nb (e ▸ hw), e1 ▸ hu, fun x hx => al x (mem_headsOf.mpr hx), ?_⟩
  rw [← e1]
  exact G.loop _ hu
 ·cases e
theorem mem_drop {x : Nat} : x ∈ drop v g ↔ x ∈ v ∧ x ≠ g := by
 unfold drop
 rw [List.mem_filter]
 simp only [bne_iff_ne, ne_eq]
 constructor
 ·rintro ⟨h1, h2⟩; exact ⟨h1, by lia⟩
 ·rintro ⟨h1, h2⟩; exact ⟨h1, by lia⟩
theorem GraphOK.step (G : GraphOK b l v) (hg : g ∈ v) (O : One l b g i) : GraphOK b (merge l g i) (drop v g) where
 loop := fun p m => by
  obtain ⟨x, _, _, _, h⟩ := mem_merge.mp (show (p.1, p.2) ∈ merge l g i from m)
  exact h
 nb := fun h => G.nb (mem_drop.mp h).1
 reach := fun x h => by
  obtain ⟨h1, h2⟩ := mem_drop.mp h
  have := O.toM (by lia) (G.reach x h1)
  rwa [show ph g i x = x from if_neg h2] at this
 fst := fun p m => by
  obtain ⟨x, h1, h2, h3, h4⟩ := mem_merge.mp (show (p.1, p.2) ∈ merge l g i from m)
  unfold ph at h3
  split at h3
  ·rcases G.fst _ O.has with e | e
   ·exact .inl (mem_drop.mpr ⟨h3 ▸ e, h3 ▸ O.ig⟩)
   ·exact .inr (h3 ▸ e)
  ·rename_i ne
   rcases G.fst _ h1 with e | e
   ·exact .inl (mem_drop.mpr ⟨h3 ▸ e, h3 ▸ ne⟩)
   ·exact .inr (h3 ▸ e)
 snd := fun p m => by
  obtain ⟨x, h1, h2, h3, h4⟩ := mem_merge.mp (show (p.1, p.2) ∈ merge l g i from m)
  rcases G.snd _ h1 with e | e
  ·exact .inl (mem_drop.mpr ⟨e, h2⟩)
  ·exact .inr e
 len := by
  unfold merge
  have h1 := List.length_filter_le (fun p : Nat × Nat => (p.1 : Int) != (p.2 : Int)) ((l.filter fun p => (p.2 : Int) != (g : Int)).map fun p => (if (p.1 : Int) == (g : Int) then i else p.1, p.2))
  have h2 := List.length_filter_le (fun p : Nat × Nat => (p.2 : Int) != (g : Int)) l
  rw [List.length_map] at h1
  have := G.len
  lia
 vlen := by
  have := List.length_filter_le (fun x : Nat => (x : Int) != (g : Int)) v
  have h := G.vlen
  unfold drop; lia
theorem drop_lt (hg : g ∈ v) : (drop v g).length < v.length := by
 unfold drop
 rcases Nat.lt_or_eq_of_le (List.length_filter_le (fun x : Nat => (x : Int) != (g : Int)) v) with h | h
 ·exact h
 ·have := List.length_filter_eq_length_iff.mp h g hg
  simp at this
theorem shrink_inv (b : Nat) : ShrinkOK (GraphOK b) where
 heads := fun l v G x hx e => by
  obtain ⟨u, hu⟩ := G.head hx
  have := mem_headsOf.mpr hu
  rw [e] at this; cases this
 len := fun l v G => ⟨G.len, G.vlen⟩
 step := fun l v G g i r h => by
  obtain ⟨hg, O⟩ := ready_one G (g := g) (i := i) (by rw [h]; exact .head _)
  exact G.step hg O
theorem shrink_red : ∀ f (l : List (Nat × Nat)) (v : List Nat), v.length ≤ f → GraphOK b l v → (shrink f l v = true ↔ Red l b) := by
 have zero : ∀ (l : List (Nat × Nat)), GraphOK b l [] → Red l b := fun l G => ⟨fun _ => 0, fun x y m n => by
  rcases G.fst _ m with e | e
  ·cases e
  ·rcases G.snd _ m with e' | e'
   ·cases e'
   ·exact absurd (e.trans e'.symm) (G.loop _ m)⟩
 intro f
 induction f with
 | zero =>
  intro l v hf G
  cases v with
  | nil => exact ⟨fun _ => zero l G, fun _ => rfl⟩
  | cons => simp at hf
 | succ f ih =>
  intro l v hf G
  rw [shrink]
  by_cases hv : v = []
  ·subst hv
   exact ⟨fun _ => zero l G, fun _ => rfl⟩
  ·rw [if_neg (by simpa using hv)]
   cases hr : readyOf l v with
   | nil =>
    refine ⟨(fun h => by cases h), fun R => ?_⟩
    obtain ⟨w, hw, i, hi⟩ := R.ready G hv
    have : (w, (headsOf l w).headD 0) ∈ readyOf l v := by
     unfold readyOf
     refine List.mem_filterMap.mpr ⟨w, hw, if_pos (alike_iff.mpr fun x hx => ?_)⟩
     obtain ⟨u, hu⟩ := G.head hw
     have e : ∀ y ∈ headsOf l w, y = i := fun y hy => hi y (mem_headsOf.mp hy)
     rw [e x hx]
     cases hh : headsOf l w with
     | nil => rw [hh] at hx; cases hx
     | cons y ys => exact (e y (by rw [hh]; exact .head _)).symm
    rw [hr] at this; cases this
   | cons p r =>
    obtain ⟨g, i⟩ := p
    obtain ⟨hg, O⟩ := ready_one G (g := g) (i := i) (by rw [hr]; exact .head _)
    have hi : Reach l (-1) b i := by
     rcases G.fst _ O.has with e | e
     ·exact G.reach i e
     ·have e : i = b := e
      subst e; exact .base (by lia)
    rw [O.red G hi]
    exact ih _ _ (by have := drop_lt hg; show (drop v g).length ≤ f; lia) (G.step hg O)
end
theorem mem_freeOf {l : List (Str × Str)} {x : Str} : x ∈ freeOf l ↔ (∃ p ∈ l, p.1 = x) ∧ ∀ p ∈ l, p.2 ≠ x := by
 unfold freeOf
 rw [List.mem_filter, List.mem_map]
 constructor
 ·rintro ⟨h1, h2⟩
  refine ⟨h1, fun p hp e => ?_⟩
  have : (l.map (·.2)).contains x = true := List.contains_iff_mem.mpr (List.mem_map.mpr ⟨p, hp, e⟩)
  rw [this] at h2; cases h2
 ·rintro ⟨h1, h2⟩
  refine ⟨h1, ?_⟩
  cases h : (l.map (·.2)).contains x with
  | false => rfl
  | true =>
   obtain ⟨p, hp, e⟩ := List.mem_map.mp (List.contains_iff_mem.mp h)
   exact absurd e (h2 p hp)
noncomputable def Rises (l : List (Str × Str)) : Prop := ∃ ord : Str → Nat, ∀ p ∈ l, ord p.1 < ord p.2
theorem leastS {P : Str → Prop} (ord : Str → Nat) : ∀ m w, ord w ≤ m → P w → ∃ w, P w ∧ ∀ x, P x → ord w ≤ ord x := by
 intro m
 induction m with
 | zero => intro w hm hw; exact ⟨w, hw, fun x _ => by lia⟩
 | succ m ih =>
  intro w hm hw
  by_cases q : ∃ x, P x ∧ ord x < ord w
  ·obtain ⟨x, hx, hl⟩ := q
   exact ih x (by lia) hx
  ·exact ⟨w, hw, fun x hx => Nat.le_of_not_lt fun h => q ⟨x, hx, h⟩⟩
theorem emp_rises {l : List (Str × Str)} {r : Bool} (h : Emp l r) : r = true ↔ Rises l := by
 induction h with
 | @stop l h =>
  constructor
  ·intro e
   have : l = [] := by simpa using e
   subst this
   exact ⟨fun _ => 0, fun p hp => by cases hp⟩
  ·rintro ⟨ord, ho⟩
   cases l with
   | nil => rfl
   | cons p l =>
    exfalso
    obtain ⟨w, ⟨q, hq, e⟩, lw⟩ := leastS (P := fun x => ∃ q ∈ p :: l, q.1 = x) ord (ord p.1) p.1 (Nat.le_refl _) ⟨p, .head _, rfl⟩
    have : w ∈ freeOf (p :: l) := by
     refine mem_freeOf.mpr ⟨⟨q, hq, e⟩, fun z hz ez => ?_⟩
     have h1 := ho z hz
     have h2 := lw z.1 ⟨z, hz, rfl⟩
     rw [ez] at h1
     lia
    rw [h] at this; cases this
 | @step l x xs r h e ih =>
  rw [ih]
  have fx := mem_freeOf.mp (show x ∈ freeOf l by rw [h]; exact .head _)
  have mw : ∀ p, p ∈ without l x ↔ p ∈ l ∧ p.1 ≠ x := fun p => by
   unfold without; rw [List.mem_filter]; simp only [bne_iff_ne]
  constructor
  ·rintro ⟨ord, ho⟩
   refine ⟨fun y => if y = x then 0 else ord y + 1, fun p hp => ?_⟩
   show (if p.1 = x then 0 else ord p.1 + 1) < if p.2 = x then 0 else ord p.2 + 1
   rw [if_neg (fx.2 p hp)]
   by_cases e : p.1 = x
   ·rw [if_pos e]; lia
   ·rw [if_neg e]
    have := ho p ((mw p).mpr ⟨hp, e⟩)
    lia
  ·rintro ⟨ord, ho⟩
   exact ⟨ord, fun p hp => ho p ((mw p).mp hp).1⟩
theorem emp_some : ∀ n (l : List (Str × Str)), l.length ≤ n → ∃ r, Emp l r := by
 intro n
 induction n with
 | zero =>
  intro l hl
  have : l = [] := List.length_eq_zero_iff.mp (by lia)
  subst this
  exact ⟨_, .stop rfl⟩
 | succ n ih =>
  intro l hl
  cases h : freeOf l with
  | nil => exact ⟨_, .stop h⟩
  | cons x xs =>
   have := without_lt (free_mem h)
   obtain ⟨r, hr⟩ := ih (without l x) (by lia)
   exact ⟨r, .step h hr⟩
noncomputable abbrev instO (i : Addr) : Obj := { cls := .ref 297, dict := some i, data := .plain }
theorem is_lst {ds : List D} (s : Shared) (N : Addr → Prop) (v : Value) (a : At s.heap N v (.lst ds)) : s.TypeIs v "list" := by
 refine a.cL fun _ _ n i r => ?_
 exact i.typeIs
section
variable {w : World} {k : Nat} {A : Around} {s : Shared} {Q : Value → Shared → Prop} {E : Value → Shared → Prop} {a i : Addr}
theorem init_code (Rm : Room A (k + 1)) (S : SaysT w s.heap) (ha : a ≠ TF) (hi : i ≠ TF) (nai : i ≠ a) (ea : s.heap.get? a = some (instO i)) (ei : s.heap.get? i = some emptyD)
  (q : ∀ s' b, (∃ h t, s' = { s with heap := h, toks := t }) → KpX (fun z => z = i) s.heap s'.heap → (∀ M, TabOK s.heap M → TabOK s'.heap (fun z => M z ∨ s.heap.get? z = none)) → s.heap.get? b = none → b ≠ TF → s'.heap.PlainList b #[] → HdrIs s'.heap a i b → s'.heap.get? a = some (instO i) → Q .none s') :
  codeAny (model pr w) A (.call (.ref 191) ⟨[.ref a], []⟩) (fun r s' => match r with | .ok (.ret v) => Q v s' | .ok _ => False | .error e => E e s') s := by
 refine enterC (k := k) (ps := [sz "self", sz "headers"]) (hids := [sz "k", sz "v"]) (zs := [.ref a, .none]) (lvs := [.val (.ref a) (.opq (instO i)), .dat false .none]) (h' := s.heap) (tk := s.toks) (F_init w) Rm S (fun Q' E' q' => kp_binds (K := [(184, o184)]) (binds := [Str.ofString "self", Str.ofString "headers"].zip [.ref a, .none]) (frag_in S (as := [184]) rfl (by kernel_rfl) rfl) (fun S => by kernel_rfl) _ A.in1 E' Q' q') (.refl _) rfl rfl (by decide +kernel) (by kernel_rfl) (.cons ⟨rfl, .opq ha ea⟩ (.cons .none .nil)) (fun cx s₁ E' R₁ S₁ I => ?_)
 conv in bo (mt 0) => whnf
 let ρ₁ : LV → Rho := fun y => [(sz "self", .val (.ref a) (.opq (instO i))), (sz "headers", y), (sz "k", .hid), (sz "v", .hid)]
 refine wpAny_execs_cons (wpAny_Assign_Name (wpAny_IfExp ((ts_cmp (ev_dat m1) ev_none cmp_isNot : Ts w k (sc (mt 0)) (ρ₁ (.dat false .none)) _ false) _ cx s₁ _ _ R₁ S₁ fun s₂ z₂ => ?_)) rfl)
 rw [if_neg Bool.false_ne_true]
 have S₂ := S₁.kps z₂
 refine wpAny_List (wpAny_items_nil ⟨Nat.zero_le _, ?_⟩)
 let s₃ : Shared := { s₂ with heap := s₂.heap.push { cls := .type "list", data := .seq ([] : List Value).toArray } }
 have z₃ : Kps s₂ s₃ := .push _ _ _
 have S₃ : St w (sc (mt 0)) cx s₃.heap (ρ₁ (.dat false .none)) := S₂.kps z₃
 have eb : s₃.heap.get? s₂.heap.objs.size = some { cls := .type "list", data := .seq ([] : List Value).toArray } := Heap.get?_push_size _ rfl
 have fb : cx.N .fresh s₂.heap.objs.size := S₂.newN (get_end _) (by intro z; cases z)
 refine bc fun gG => ?_
 obtain ⟨b, hb⟩ : ∃ b, b = s₂.heap.objs.size := ⟨_, rfl⟩
 refine gG ?_; clear gG
 rw [← hb] at eb fb ⊢
 refine store (s := s₃) S₃ (x := sz "headers") (by kernel_rfl) fun h₄ t₄ zz => ?_
 have u : Upd (ρ₁ (.dat false .none)) (sz "headers") (.val (.ref b) (.lst [])) (ρ₁ (.val (.ref b) (.lst []))) := u1
 have S₄ := zz.st S₃ u (by rintro _ _ e'; cases e') (by rintro _ _ e'; cases e') (by rintro _ _ e'; cases e'; exact ⟨rfl, .lst ⟨fb.1, fb.2.1⟩ ⟨_, eb, rfl, 0, rfl⟩ .nil⟩) (by rintro _ _ e'; cases e')
 have X₄ := ((Ext.kps z₂).trans (.kps z₃)).trans (zz.ext (s := s₃) S₃ t₄)
 refine bc fun gG => ?_
 obtain ⟨s₄, hs₄⟩ : ∃ s₄ : Shared, s₄ = { s₃ with heap := h₄, toks := t₄ } := ⟨_, rfl⟩
 obtain ⟨c₄, hc₄⟩ : ∃ c₄ : Cx, c₄ = { cx with f := fun y => if y = sz "headers" then some (.ref b) else cx.f y } := ⟨_, rfl⟩
 refine gG ?_; clear gG
 rw [← hc₄] at S₄ X₄
 rw [← hs₄] at X₄
 have S₄ : St w (sc (mt 0)) c₄ s₄.heap (ρ₁ (.val (.ref b) (.lst []))) := by rw [hs₄]; exact S₄
 have mb : ¬ c₄.mu b := fun m => by rw [hc₄] at m; exact fb.2.1 (.inl m)
 have pb₄ : s₄.heap.PlainList b #[] := by
  refine bc fun gG => ?_
  obtain ⟨_, av⟩ := S₄.vals _ _ (.tail _ (.head _))
  refine gG ?_; clear gG
  have := (zz.ext (s := s₃) S₃ t₄).kp.get b _ fb.1 (fun m => fb.2.1 (.inl m)) eb
  rw [hs₄]
  exact ⟨0, this⟩
 show wpAny _ _ (execs _ cx.env) _ _ { s₃ with heap := h₄, toks := t₄ }
 rw [← hs₄, ← X₄.env]
 have R₄ : Room (A.deeper c₄.env) k := by rw [X₄.env]; exact R₁
 refine run_es (ρ' := ρ₁ (.val (.ref b) (.lst []))) (es_if (ts_typeIsNot (T := "list") (T' := "list") evv_builtin (ev_val m1) is_lst (by decide) evv_builtin) (fun h => by simp at h) (fun _ => ex_nil rfl)) R₄ S₄ fun c₅ s₅ X₅ S₅ => ?_
 have X := X₄.trans X₅
 have Z := I.out (.refl _) X S₅
 have pb₅ : s₅.heap.PlainList b #[] := pb₄.at fun o e => X₅.kp.get b o fb.1 mb e
 have ea₅ : s₅.heap.get? a = some (instO i) := Z.kp.get a _ ha (fun z => z) ea
 have ei₅ : s₅.heap.get? i = some emptyD := Z.kp.get i _ hi (fun z => z) ei
 have b0 : s.heap.get? b = none := by
  have := fb.2.2
  rw [I.F] at this
  exact this
 refine wpAny_execs_cons (plainObj_wpAny_Assign_Attribute ((evv_val m1 : EvV w k (sc (mt 0)) (ρ₁ (.val (.ref b) (.lst []))) _ _) _ c₅ s₅ _ _ R₄ S₅ ((evv_val m0 : EvV w k (sc (mt 0)) (ρ₁ (.val (.ref b) (.lst []))) _ _) _ c₅ s₅ _ _ R₄ S₅ ?_)) rfl)
 refine bc fun gG => ?_
 obtain ⟨nm, q', bs, sn, sub, col, dd, k0, k1, k2, k3, k5, hC⟩ := cls297 S₅.base
 have n296 := ns296 S₅.base
 have ne297 : a ≠ 297 := by rintro rfl; rw [ea₅] at hC; cases hC
 have inst₅ : s₅.heap.InstFk a 297 (fun _ => none) := ⟨instO i, ea₅, rfl, (fun c z => by cases z), .inr ⟨i, rfl, nai, Heap.Ns1.of_empty ⟨_, #[], _, ei₅, rfl, (fun e he => absurd he (by simp)), fun _ => rfl⟩, ⟨_, ei₅, rfl, rfl⟩⟩⟩
 obtain ⟨m, nsm, em⟩ := S₅.vars.ns
 have nL : c₅.env.locals ≠ i ∧ c₅.env.locals ≠ a := by
  have hm : c₅.mu c₅.env.locals := S₅.mutL
  have h0 : s.heap.get? c₅.env.locals = none := by
   rcases X.new _ hm with hm | ⟨hm, _⟩
   ·exact I.mu _ hm
   ·cases e : s.heap.get? c₅.env.locals with
    | none => rfl
    | some o =>
     have h1 : s₁.heap.get? c₅.env.locals = some o := by
      by_cases hT : c₅.env.locals = TF
      ·exact absurd hT (S₅.mutO _ S₅.mutL).1
      ·exact I.kp.get _ o hT (fun z => z) e
     exact no hm h1
  constructor
  ·intro e; rw [e, ei] at h0; cases h0
  ·intro e; rw [e, ea] at h0; cases h0
 obtain ⟨h₅, g₅, d₅, t₅, os₅⟩ := s₅
 refine gG ?_; clear gG
 refine store_attrFk (ns := []) PySem.F.store_object hC n296 (by kernel_rfl) (by kernel_rfl) (by rw [typeLookup_type, builtinLookup_eq_fast]; kernel_rfl) ne297 inst₅ (fun h₆ t₆ I₆ hk ho => ?_) ?_ (Nat.zero_le _)
 ·obtain ⟨o₁, e1, e2, e3, e4, e5⟩ := ho _ ea₅
  have ho₁ : o₁ = instO i := by
   refine bc fun gG => ?_
   obtain ⟨x1, x2, x3, x4⟩ := o₁
   refine gG ?_; clear gG
   have := e5 i rfl
   simp only at e2 e3 e4 this
   subst e2 e3 e4 this; rfl
  subst ho₁
  have keep : ∀ z o, z ≠ i → h₅.get? z = some o → h₆.get? z = some o := fun z o nz e => by
   by_cases hz : z = a
   ·subst hz; rw [ea₅] at e; cases e; exact e1
   ·exact hk z o hz (fun o₀ dx e0 ed => by rw [ea₅] at e0; cases e0; cases ed; exact nz) e
  have hh : HdrIs h₆ a i b := HdrIs.of I₆ e1 rfl rfl
  have nbi : b ≠ i := by exact ne_oo b0 ei
  have pb₆ : h₆.PlainList b #[] := pb₅.at fun o e => keep b o nbi e
  have K₆ : KpX (fun z => z = i) s.heap h₆ := ⟨fun z o ne nz e => keep z o nz (Z.kp.get z o ne (fun z => z) e), fun o vs e d => by
   refine bc fun gG => ?_
   obtain ⟨mo, e'⟩ := Z.kp.tab o vs e d
   refine gG ?_; clear gG
   exact ⟨mo, keep _ _ (Ne.symm hi) e'⟩⟩
  have T₆ : ∀ M, TabOK s.heap M → TabOK h₆ (fun z => M z ∨ s.heap.get? z = none) := fun M x => (Z.kp.tk M x).map (fun o e => keep _ o (Ne.symm hi) e) fun z o ne kc n e => ⟨keep z o (by
   rintro rfl
   rw [ei₅] at e; cases e
   exact noFields (fun _ z => by cases z) kc) e, n⟩
  refine bc fun gG => ?_
  obtain ⟨hZ, tZ, eZ, _⟩ := id Z
  refine gG ?_; clear gG
  have sh₆ : ∀ (h : Heap) (t : Nat), (∃ h' t', (⟨h, g₅, d₅, t, os₅⟩ : Shared) = { s with heap := h', toks := t' }) := fun h t => ⟨h, t, by
   have : (⟨h₅, g₅, d₅, t₅, os₅⟩ : Shared) = { s with heap := hZ, toks := tZ } := eZ
   cases s; cases this; rfl⟩
  refine wpAny_execs_cons (wpAny_If (isTrue_plain (wpAny_Constant_bool (wpAny_truthy_bool ?_)) rfl))
  rw [if_pos rfl]
  have n₆ : h₆.Ns c₅.env.locals m := nsm.at' fun o eo => keep _ o nL.1 eo
  have hkd : c₅.env.kindOf (sz "headers") = some .local := by
   show c₅.env.scope.names.lookup _ = _
   rw [S₅.scp]; kernel_rfl
  have hfn : c₅.env.scope.kind = .function := S₅.scp ▸ S₅.fn
  have hmv : m (sz "headers") = some (.ref b) := (em _ hkd).trans (S₅.vals _ _ (.tail _ (.head _))).1
  refine wpAny_execs_cons (wpAny_For (wpAny_Name (wpAny_loadName_local hfn hkd n₆ hmv ?_) (by decide)) (by intro _; rfl))
  let s₆ : Shared := ⟨h₆, g₅, d₅, t₆, os₅⟩
  have il : s₆.heap.IsList b #[] := pb₆.isList
  have hlt : b ≠ s₆.heap.objs.size := by obtain ⟨_, e⟩ := pb₆; exact Nat.ne_of_lt (Heap.lt_size e)
  refine wpAny_pyIter_list il ?_
  let s₇ : Shared := { s₆ with heap := s₆.heap.push { cls := .type "list_iterator", data := .fields #[.ref b, .int 0 0] } }
  refine codeAny_forLoop_any (fun n s' => s' = s₇) (fun n s' es => ?_) 0 rfl
  subst es
  have il₇ : s₇.heap.IsList b #[] := by obtain ⟨o, e, c, m, d⟩ := il; exact ⟨o, Heap.get?_push_of_some _ e, c, m, d⟩
  refine (Walks.list (prog := pr) (w := w) R₄.hh s₆.heap.objs.size b hlt #[]).done s₇ _ _ ⟨⟨_, Heap.get?_push_size _ rfl, rfl, rfl⟩, il₇⟩ fun h₈ t₈ hk₈ => ?_
  have keep₈ : ∀ z o, h₆.get? z = some o → h₈.get? z = some o := fun z o e => hk₈ z o (by
   have hlt : z < h₆.objs.size := Heap.lt_size e
   simp only [List.mem_singleton]
   exact Nat.ne_of_lt hlt) (Heap.get?_push_of_some _ e)
  have z₈ : Kp h₆ h₈ := .of keep₈
  refine wpAny_execs_nil (wpAny_execs_nil (wpAny_execs_nil (q _ b (sh₆ _ _) ⟨fun z o ne nz e => keep₈ z o (K₆.get z o ne nz e), fun o vs e d => ?_⟩ (fun M x => (T₆ M x).map (fun o e => keep₈ _ o e) fun z o _ _ n e => ⟨keep₈ z o e, n⟩) b0 fb.1 (pb₆.at fun o e => keep₈ b o e) (hh.map (fun o e => keep₈ a o e) (fun o e => keep₈ i o e)) (keep₈ a _ e1))))
  refine bc fun gG => ?_
  obtain ⟨mo, e'⟩ := K₆.tab o vs e d
  refine gG ?_; clear gG
  exact ⟨mo, keep₈ _ _ e'⟩
 ·exact Within.nil
end
theorem Room.under {A : Around} {k : Nat} {c : Code} (R : Room A (k + 1)) (h1 : c.weight ≤ 1) (h2 : c.cUnits ≤ 8) : Room (A.under c) k := ⟨R.hh, by have := R.depth; show A.depth + c.weight + k < _; lia, by have := R.units; show A.units + c.cUnits + 8 * k + 400 < _; lia⟩
section
variable {w : World} {k : Nat} {A : Around} {s : Shared} {Q : Value → Shared → Prop} {E : Value → Shared → Prop} {a i : Addr}
noncomputable def KH (w : World) : Frag := [(297, o297), (296, o296 w.params), (191, o191)]
theorem hdr_new (Rm : Room A (k + 2)) (S : SaysT w s.heap)
  (q : ∀ s' a i b, Kps s s' → s.heap.get? a = none → s.heap.get? i = none → s.heap.get? b = none → b ≠ a → s'.heap.PlainList b #[] → HdrIs s'.heap a i b → Q (.ref a) s') :
  wpAny (model pr w) A (call (.ref 297) []) Q E s := by
 refine wpAny_call ?_
 have X : (KH w).In s.heap := frag_in S (as := [297, 296, 191]) rfl (by kernel_rfl) rfl
 obtain ⟨h, g, d, t, os⟩ := s
 refine make_core (init := .ref 191) (makes_of X (by kernel_rfl)) (looks_findIn X (by kernel_rfl)) (fun self => bind_fn X self (by kernel_rfl)) (.inl rfl) ?_
 let h₁ : Heap := (h.push emptyDict).push (instObj 297 h.objs.size)
 let s₁ : Shared := ⟨h₁, g, d, t, os⟩
 have z₁ : Kp h h₁ := .of fun b o e => Heap.get?_push_of_some _ (Heap.get?_push_of_some _ e)
 have ei : h₁.get? h.objs.size = some emptyD := Heap.get?_push_of_some _ (Heap.get?_push_size _ rfl)
 have ea : h₁.get? (h.objs.size + 1) = some (instO h.objs.size) := by heap_get
 have i0 : h.get? h.objs.size = none := get_end _
 have a0 : h.get? (h.objs.size + 1) = none := by
  cases e : h.get? (h.objs.size + 1) with
  | none => rfl
  | some o => exact absurd (Heap.lt_size e) (Nat.not_lt.mpr (Nat.le_succ _))
 have neT : ∀ z, h.get? z = none → z ≠ TF := fun z e => by rintro rfl; obtain ⟨o, vs, e', _⟩ := tab_here S; have : h.get? TF = some o := e'; exact no e this
 refine codeAny_mono (init_code (s := s₁) (Q := fun v s' => v = .none ∧ ∃ s'' : Shared, s'' = s' ∧ Q (.ref (h.objs.size + 1)) s'') (E := E) (Rm.under (Nat.le_of_ble_eq_true rfl) (Nat.le_of_ble_eq_true rfl)) (Kp.trans S z₁) (neT _ a0) (neT _ i0) (Nat.ne_of_lt (Nat.lt_succ_self _)) ea ei fun s' b sh kx tk b0 bT pl hh ea' => ⟨rfl, s', rfl, ?_⟩) fun r s' z => ?_
 ·obtain ⟨h', t', rfl⟩ := sh
  have bh : h.get? b = none := by
   cases e : h.get? b with
   | none => rfl
   | some o => have := z₁.get b o bT (fun z => z) e; exact no (show h₁.get? b = none from b0) this
  refine q _ (h.objs.size + 1) h.objs.size b ⟨h', t', rfl, ⟨⟨fun c o n _ e => ?_, fun o vs e dd => ?_⟩, fun N z => ?_⟩⟩ a0 i0 bh (by rintro rfl; have : h₁.get? (h.objs.size + 1) = none := b0; exact no this ea) pl hh
  ·exact kx.get c o n (by rintro rfl; have : h.get? h.objs.size = some o := e; exact no i0 this) (z₁.get c o n (fun z => z) e)
  ·obtain ⟨m₁, e₁⟩ := z₁.tab o vs e dd
   obtain ⟨m₂, e₂⟩ := kx.tab _ _ e₁ rfl
   exact ⟨m₁ ++ m₂, by rw [e₂, Array.append_assoc]⟩
  ·refine (tk _ (z₁.tk N z)).weak fun c ne n => ?_
   rcases n with n | n
   ·exact n
   ·right
    cases e : h.get? c with
    | none => rfl
    | some o => have := z₁.get c o ne (fun z => z) e; exact no (show h₁.get? c = none from n) this
 ·rcases r with e | (_ | _ | _ | v)
  ·exact z
  ·exact z.elim
  ·exact z.elim
  ·exact z.elim
  ·obtain ⟨rfl, s'', rfl, z⟩ := z; exact ⟨rfl, z⟩
end
section
variable {w : World} {k : Nat} {sc : Scope} {ρ ρ' : Rho} {md m₁ m₂ : Md} {d d₁ d₂ : D} {e e₁ e₂ : PySem.Expr} {pos p₁ p₂ : Pos} {x : Str} {c : Cx} {s : Shared} {ds : List D} {R : D → Prop}
theorem es_newH {n : Str} {pc : Pos} (u : Upd ρ x (.own true []) ρ') (hx : isStore sc x = true := by kernel_rfl) (hg : EvV w (k + 2) sc ρ (.Name n p₂) (.ref 297)) : Es w (k + 2) sc ρ (.Assign [.Name x p₁] (.Call (.Name n p₂) [] [] pc) pos) (fun r => r = ρ') R := fun A c s Q E Rm S q r => by
 refine wpAny_Assign_Name (wpAny_Call_Name_kw (hg A c s _ _ Rm S ?_)) rfl
 refine callWith_cls0 (mN := (H1 w.params).nsMap 296) ⟨cls297 S.base, ns296 S.base⟩ (fun _ _ z => z) (hdr_new Rm S.base fun s₁ a i b z₁ a0 i0 b0 nba pl hh => ?_)
 have S₁ := S.kps z₁
 obtain ⟨nb, hb⟩ := id pl
 have P : Kp s.heap s₁.heap := z₁.kp
 obtain ⟨h₁, t₁, e₁, _⟩ := id z₁
 have nN : ∀ z, s.heap.get? z = none → c.N .fresh z := fun z e => S.newN (md := .fresh) e (by intro z; cases z)
 have S₂ : St w sc { c with mu := fun a => c.mu a ∨ a = b } s₁.heap ρ := S.grow P b0 hb
 have X₂ : Ext c s { c with mu := fun a => c.mu a ∨ a = b } s₁ := by rw [e₁] at P ⊢; exact S.grow_ext (t := t₁) P b0
 let c₂ : Cx := { c with mu := fun a => c.mu a ∨ a = b, ad := fun y => if y = x then b else c.ad y }
 have ad' : ∀ y, y ≠ x → c₂.ad y = c.ad y := fun y hy => if_neg hy
 have adx : c₂.ad x = b := if_pos rfl
 obtain ⟨ρ₀, u₀, u₁⟩ : ∃ ρ₀, Upd ρ x .hid ρ₀ ∧ Upd ρ₀ x (.own true []) ρ' := u.mid
 have W₀ : Weak ρ ρ₀ := u₀.weak
 have S₃ := S₂.weak W₀
 have nx : ∀ l, (x, l) ∈ ρ₀ → l = .hid := fun l m => by
  rcases u₀.mem S.nodup m with ⟨_, e⟩ | ⟨n, _⟩
  ·exact e
  ·exact absurd rfl n
 have S₄ : St w sc c₂ s₁.heap ρ₀ := by
  refine { S₃ with vals := fun y l m => ?_, own := fun y y' sh sh' ds ds' m m' ea => ?_ , base₀ := S₃.base₀, keep := S₃.keep, hM := S₃.hM, hF := S₃.hF, scp := S₃.scp, fn := S₃.fn, glo := S₃.glo, blt := S₃.blt, mutL := S₃.mutL, mutC := S₃.mutC, mutO := S₃.mutO, vars := ⟨S₃.vars.ns, S₃.vars.cel, S₃.vars.inj⟩, nodup := S₃.nodup, hidO := S₃.hidO, lkO := S₃.lkO }
  ·by_cases hy : y = x
   ·subst hy; rw [nx l m]; trivial
   ·have H := S₃.vals y l m
    cases l with
    | dat fr d => exact H
    | own sh ds =>
     unfold Holds at H ⊢
     rw [ad' y hy]
     cases sh with
     | false => exact H
     | true => exact H
    | val v' d' => exact H
    | ro d => exact H
    | hid => trivial
  ·have hy : y ≠ x := by rintro rfl; cases nx _ m
   have hy' : y' ≠ x := by rintro rfl; cases nx _ m'
   rw [ad' y hy, ad' y' hy'] at ea
   exact S₃.own y y' sh sh' ds ds' m m' ea
 refine store (c := c₂) S₄ hx fun h' tk z => ?_
 have X₄ : Ext c s c₂ s₁ := ⟨rfl, rfl, rfl, rfl, rfl, rfl, X₂.mono, X₂.new, X₂.kp, X₂.sh⟩
 refine q _ _ ρ' (X₄.trans (z.ext S₄ tk)) (z.st S₄ u₁ (by rintro _ _ e'; cases e') ?_ (by rintro _ _ e'; cases e') ?_) rfl
 ·rintro sh ds' e'
  cases e'
  have fr : ∀ z, s.heap.get? z = none → z ≠ b → c₂.N .free z := fun z e ne => ⟨(nN z e).1, fun q => by
   rcases q with (q | q) | q
   ·exact (nN z e).2.1 (.inl q)
   ·exact ne q
   ·exact (nN z e).2.1 (.inr q)⟩
  have nib : i ≠ b := by
   rintro rfl
   obtain ⟨o, oi, ho, hc, hi, hpl, hoi, hd⟩ := id hh
   rw [hb] at hoi; cases hoi; obtain ⟨hcl, _⟩ := hd; simp at hcl
  refine ⟨⟨a, i, rfl, fr a a0 nba.symm, fr i i0 nib, by rw [adx]; exact hh⟩, ⟨.inr adx, by rw [adx]; exact (nN b b0).2.2⟩, [], ?_, .nil⟩
  rw [adx]; exact pl
 ·rintro sh ds' e' y sh' ds₂ ny m
  cases e'
  rw [adx, ad' y ny]
  have mS : ∃ sh ds, (y, LV.own sh ds) ∈ ρ := by
   rcases W₀.mem m with m | m
   ·exact ⟨_, _, m⟩
   ·cases m
  obtain ⟨_, _, mS⟩ := mS
  obtain ⟨_, _, _, ⟨mm, _⟩, _⟩ := S.vals y _ mS
  rintro e
  obtain ⟨_, ⟨o, eo⟩, _⟩ := S.mutO _ mm
  rw [← e, b0] at eo; cases eo
end
theorem es_add {w : World} {k : Nat} {sc : Scope} {ρ ρ' : Rho} {m₁ m₂ : Md} {e₁ e₂ : PySem.Expr} {x : Str} {l : List (Str × Str)} {y z : Str} {p₁ pa pc ps : Pos} {R : D → Prop} (h₁ : Ev w (k + 2) sc ρ m₁ e₁ (.str y)) (h₂ : Ev w (k + 2) sc ρ m₂ e₂ (.str z)) (hy : y ∈ names6) (hz : z ∈ names6) (hx : (x, .own true (l.map dStep)) ∈ ρ) (u : Upd ρ x (.own true ((l ++ [(y, z)]).map dStep)) ρ') (hl : l.length ≤ 1000) (hv : isVar sc x = true := by kernel_rfl) (hp₁ : plainE e₁ = true := by rfl) (hp₂ : plainE e₂ = true := by rfl)
  (he : ∀ env, eval (.Call (.Attribute (.Name x p₁) (sz "add_header") pa) [e₁, e₂] [] pc) env = (do
   let ov ← eval (.Name x p₁) env
   standAt pa.atName
   let (f, first) ← holding [ov] (getMethod ov (sz "add_header") (do return (← importBound (.Name x p₁) env).getD true))
   callWith pc f first (backTo pc (starEach [e₁, e₂] env)) []) := by intro _; rfl) :
  Es w (k + 2) sc ρ (.Expr (.Call (.Attribute (.Name x p₁) (sz "add_header") pa) [e₁, e₂] [] pc) ps) (fun r => r = ρ') R := fun A c s Q E Rm S q r => by
 refine bc fun gG => ?_
 obtain ⟨g1, g2, g3⟩ := isVar.kind S hv
 obtain ⟨v, lk, ⟨a, i, ev, na, ni, hh⟩, m, vs, p, al⟩ := S.vals x _ hx
 refine gG ?_; clear gG
 subst ev
 refine wpAny_Expr ?_ (by show (c.env.scope.kind == ScopeKind.module && _) = false; rw [S.scp, S.fn]; rfl) rfl
 refine bc fun gG => ?_
 obtain ⟨ob, ho, hd⟩ := (M_add w).fn.obj
 refine gG ?_; clear gG
 refine MethodCall_ (look S g1 lk ?_ g2 g3) (he _)
 refine (M_add w).get S.base hh ?_
 refine callWith_function (o := ob) (fd := fdO o294) ?_
 rw [starEach_plain hp₁]
 refine evalArgs_plain ?_
 have key : wpAny (model pr w) A (spliced (backTo pc (starEach [e₁, e₂] c.env))) (fun zs s' => (s'.heap.get? 294 = some ob ∧ ob.data = .func (fdO o294)) ∧ wpAny (model pr w) A (call (.ref 294) ([.ref a] ++ zs) []) (fun v s' => match v with
   | .ref _ => False
   | _ => Q .next s') E s') E s :=
  wpAny_items_cons (h₁ A c s _ _ Rm S fun v₁ s₁ z₁ a₁ => wpAny_items_cons (h₂ A c s₁ _ _ Rm (S.kps z₁) fun v₂ s₂ z₂ a₂ => wpAny_items_nil (by
   have S₁ := (S.kps z₁).kps z₂
   refine ⟨⟨S₁.base.get _ _ (M_add w).fn.ne (fun z => z) ho, hd⟩, ?_⟩
   refine bc fun gG => ?_
   obtain ⟨v', l', ⟨a', i', ev', na', ni', hh'⟩, m', vs', p', al'⟩ := S₁.vals x _ hx
   refine gG ?_; clear gG
   rw [lk] at l'; cases l'; cases ev'
   have a₁' := a₁.kps z₂
   cases a₁' with
   | str _ t =>
   refine a₂.cS fun t' => ?_
   refine add_call (N := c.N .fresh) Rm S₁.base na'.1 ni'.1 (S₁.mutO _ m'.1).1 hh' p' (fun q n => ⟨n.1, by rintro rfl; exact n.2.1 (.inl m'.1)⟩) al' (by rw [List.length_map]; exact hl) hy hz fun s₃ us sh kx tk pl al₃ => ?_
   refine bc fun gG => ?_
   obtain ⟨h₃, t₃, e₃⟩ := sh
   refine gG ?_; clear gG
   have e4 : l.map dStep ++ [dStep (y, z)] = (l ++ [(y, z)]).map dStep := by rw [List.map_append]; rfl
   rw [e4] at al₃
   have S₂ := S₁.putH hx u kx tk pl (al₃.weak fun q n => n.elim (fun n => n) fun n => S₁.newN (md := .fresh) n (by intro z; cases z))
   have X : Ext c s c s₃ := ((Ext.kps z₁).trans (.kps z₂)).trans ⟨rfl, rfl, rfl, rfl, rfl, rfl, fun _ q => q, fun _ q => .inl q, kx.mono fun b _ e => e ▸ m'.1, h₃, t₃, e₃⟩
   exact q c s₃ ρ' X S₂ rfl)) (starEach_plain hp₂)) (starEach_plain hp₁)
 rw [starEach_plain hp₁] at key
 exact key
section
variable {w : World} {k : Nat} {sc : Scope} {ρ ρ' : Rho} {md m₁ : Md} {c : Cx} {pos p₁ : Pos} {x : Str}
theorem compStart1 {elt target iter target2 iter2 : PySem.Expr} {ifs ifs2 : List PySem.Expr} {scope : Scope} {pos : Pos} {it acc : Value} {env : Env} {A : Around} {R : Result → Shared → Prop} {s : Shared}
  (h0 : codeAny (model pr w) A (.compLoop (.ListComp elt [⟨target, iter, ifs, 0⟩, ⟨target2, iter2, ifs2, 0⟩] scope pos) 1 it acc env) R s)
  (h : wpAny (model pr w) A (pyIter it) (fun it' s' => codeAny (model pr w) A (.compLoop (.ListComp elt [⟨target, iter, ifs, 0⟩, ⟨target2, iter2, ifs2, 0⟩] scope pos) 1 it' acc env) R s')
   (notedBy (model pr w) A env fun x s' => R (.error x) s') s) :
  codeAny (model pr w) A (.compStart (.ListComp elt [⟨target, iter, ifs, 0⟩, ⟨target2, iter2, ifs2, 0⟩] scope pos) 1 it acc env) R s := by
 refine codeAny_of_tree ?_
 show wpAny _ _ ((compStart (.ListComp elt [⟨target, iter, ifs, 0⟩, ⟨target2, iter2, ifs2, 0⟩] scope pos) 1 it acc env).onRaise (fun x => do noteFrame x env; standAt theWindowsPlace)) _ _ s
 refine wpAny_notedAt ?_
 unfold compStart
 show wpAny _ _ (ask >>= _) _ _ s
 refine wpAny_bind (wpAny_askSetting (wpAny_ite ?_))
 split
 ·first
   | exact wpAny_bind (wpAny_pure (wpAny_pure (And.intro rfl h0)))
   | exact wpAny_pure (And.intro rfl h0)
 ·first
   | exact wpAny_bind (wpAny_rule (wpAny_bind (wpAny_standAt (wpAny_bind (wpAny_mono h (fun it' s' h' => wpAny_pure (And.intro rfl h')) fun _ _ x => x)))))
   | (refine wpAny_bind (wpAny_rule ?_); show wpAny _ _ (standAt iter2.pos >>= _) _ _ s; exact wpAny_bind (wpAny_standAt (wpAny_bind (wpAny_mono h (fun it' s' h' => wpAny_pure (And.intro rfl h')) fun _ _ x => x))))
noncomputable def Outer (elt : PySem.Expr) (gens : List Comprehension) (scope : Scope) (pos : Pos) (target iter iter2 : PySem.Expr) : Prop := ∀ it acc env, compTurn (.ListComp elt gens scope pos) 0 it acc env = (do
  standAt iter.pos
  match ← pyNext it with
  | none => pure (.done .next)
  | some v =>
   letOwnedTupleGo target it v
   assign target env v
   let x ← eval iter2 env
   standAt iter2.pos
   let x ← foldedSetIterable iter2 env x
   let y ← holding [x] (pyIter x)
   let _ ← runOwn (.compStart (.ListComp elt gens scope pos) 1 y acc env) env
   again (.compLoop (.ListComp elt gens scope pos) 0 it acc env))
theorem item_clause {β : Type} {ll : List β} {g2 : β → D} {r : β → D} {ρb : Rho} {target iter target2 iter2 elt : PySem.Expr} {scope : Scope} {I Dd : Addr} {s₀ : Shared} {cJ : Cx} {A : Around} {m₂ : Md}
  (hturn1 : Last elt [⟨target, iter, [], 0⟩, ⟨target2, iter2, [], 0⟩] scope pos 1 target2 iter2 [])
  (hs2 : ∀ env x, foldedSetIterable iter2 env x = pure x) (Rm : Room A k) (hm₂ : m₂.le .free = true) (hm : md.le .free = true) (hD0 : s₀.heap.get? Dd = none) (hw : Weak ρb ρ)
  (hit2 : ItOK w k sc ρb true m₂ iter2 (ll.map g2)) (hx : ∀ b ∈ ll, ∃ ρc, Bd w k sc m₂ target2 (g2 b) ρb ρc ∧ Weak ρc ρb ∧ Ev w k sc ρc md elt (r b))
  (ht2 : (∀ I v, letOwnedTupleGo target2 (.ref I) v = pure ()) ∨ ∃ elts n p, target2 = .Tuple elts n p) :
  Item w sc ρ ρb md A (fun env => do
   let x ← eval iter2 env
   standAt iter2.pos
   let x ← foldedSetIterable iter2 env x
   let y ← holding [x] (pyIter x)
   let _ ← runOwn (.compStart (.ListComp elt [⟨target, iter, [], 0⟩, ⟨target2, iter2, [], 0⟩] scope pos) 1 y (.ref Dd) env) env
   again (.compLoop (.ListComp elt [⟨target, iter, [], 0⟩, ⟨target2, iter2, [], 0⟩] scope pos) 0 (.ref I) (.ref Dd) env)) (.ListComp elt [⟨target, iter, [], 0⟩, ⟨target2, iter2, [], 0⟩] scope pos) 0 cJ s₀ I Dd (ll.map r) := fun c₃ s₃ vs pre R E X₃ S₃ hid3D pl₃ at₃ hz q => by
 refine wpAny_bind (wpAny_mono (hit2 A c₃ s₃ (fun y s₅ => codeAny (model pr w) A (.compStart (.ListComp elt [⟨target, iter, [], 0⟩, ⟨target2, iter2, [], 0⟩] scope pos) 1 y (.ref Dd) c₃.env) (fun rr s₆ => match rr with
   | .ok _ => R (.again (.compLoop (.ListComp elt [⟨target, iter, [], 0⟩, ⟨target2, iter2, [], 0⟩] scope pos) 0 (.ref I) (.ref Dd) c₃.env)) s₆
   | .error e => cameBackBy (model pr w) A c₃.env E e s₆) s₅) E Rm S₃ fun I2 s₄ s₅ z₄ it2 => ?_) (fun x s₄ h₄ => wpAny_bind (wpAny_standAt ?_)) fun _ _ h' => h')
 rotate_left
 ·rw [hs2]
  refine wpAny_bind (wpAny_pure (wpAny_bind (wpAny_holding (wpAny_mono h₄ (fun y s₅ h₅ => ?_) fun _ _ h' => h'))))
  refine wpAny_bind (wpAny_runOwn (Q := fun _ s₆ => wpAny (model pr w) A _ _ _ s₆) (codeAny_mono h₅ fun rr s₆ h₆ => ?_))
  cases rr with
  | ok _ => exact wpAny_pure h₆
  | error e => exact h₆
 have S₄ := S₃.kps z₄
 refine bc fun gG => ?_
 obtain ⟨fp2, P2, T2, hn2, z₅, W2, hT20, hTI2, hfp2, hP2, hgo2⟩ := id it2
 obtain ⟨oI2, eI2, cI2⟩ := hTI2 0 _ hT20
 have neT2 : I2 ≠ TF := ne_TF S₄.base hn2
 have SH : St w sc { c₃ with hid := fun a => c₃.hid a ∨ a = I2 } s₅.heap ρb := S₄.hide z₅.kp hn2 eI2 cI2
 obtain ⟨ci, hci⟩ : ∃ ci : Cx, ci = { c₃ with hid := fun a => c₃.hid a ∨ a = I2 } := ⟨_, rfl⟩
 refine gG ?_; clear gG
 rw [← hci] at SH
 have hidci : ci.hid = fun a => c₃.hid a ∨ a = I2 := by rw [hci]
 have muci : ci.mu = c₃.mu := by rw [hci]
 have envci : ci.env = c₃.env := by rw [hci]
 have Fci : ci.F = c₃.F := by rw [hci]
 have lkci : ci.lk = c₃.lk := by rw [hci]
 have X₄ : Ext cJ s₀ c₃ s₅ := (X₃.trans (.kps z₄)).trans (.kps z₅)
 have hid₃ : c₃.hid = cJ.hid := X₄.hid
 have Y1 : Ext { cJ with hid := ci.hid } s₀ ci s₅ := by
  rw [hci]; exact ⟨X₄.env, X₄.h₀, X₄.M, X₄.F, rfl, X₄.lk, X₄.mono, X₄.new, X₄.kp, X₄.sh⟩
 have ex5 : ∀ b o, b ≠ TF → s₃.heap.get? b = some o → s₅.heap.get? b = some o := fun b o nT e => z₅.kp.get b o nT (fun z => z) (z₄.kp.get b o nT (fun z => z) e)
 have neDT : Dd ≠ TF := (S₃.hidO _ hid3D).1
 have I20 : s₀.heap.get? I2 = none := by
  cases e : s₀.heap.get? I2 with
  | none => rfl
  | some o =>
   by_cases hm2 : cJ.mu I2
   ·obtain ⟨_, ⟨o', e'⟩, _⟩ := S₄.mutO _ ((X₃.trans (.kps z₄)).mono _ hm2)
    exact no hn2 e'
   ·exact no hn2 ((X₃.trans (.kps z₄)).kp.get I2 o neT2 hm2 e)
 have nbi : ∀ a o, s₄.heap.get? a = some o → ¬ c₃.bar a → ¬ ci.bar a := fun a o e z q => z (by
  unfold Cx.bar at q ⊢; rw [hidci, muci, lkci] at q; exact q.imp id fun q => q.imp (fun q => q.resolve_right (ne_oo hn2 e).symm) id)
 have toI : ∀ (md : Md), md.le .free = true → ∀ a o, c₃.N md a → s₄.heap.get? a = some o → ci.N md a := fun md hm a o n e => by
  cases md with
  | flat => exact n
  | fresh => exact ⟨n.1, nbi a o e n.2.1, Fci ▸ n.2.2⟩
  | free => exact ⟨n.1, nbi a o e n.2⟩
  | new => cases hm
  | ro => cases hm
  | any => cases hm
 have it2' : ItAt2 w ci s₅ I2 m₂ (ll.map g2) := by
  refine ⟨fp2, P2, T2, W2, hT20, hTI2, fun b q => ?_, fun j v hv => ?_, hgo2⟩
  ·rcases hfp2 b q with e | ⟨n, nn, o, e⟩
   ·exact .inl e
   ·refine .inr ⟨n, ?_, ?_, o, z₅.kp.get b o n (fun z => z) e⟩
    ·rw [muci]; exact (nn rfl).1
    ·rw [hidci]; exact fun q => q.elim (nn rfl).2 (ne_oo hn2 e).symm
  ·obtain ⟨d, hd, a⟩ := hP2 j v hv
   exact ⟨d, hd, a.map fun b o n e => ⟨z₅.kp.get b o n.ne (fun z => z) e, toI m₂ hm₂ b o n e⟩⟩
 have pl₅ : s₅.heap.PlainList Dd vs.toArray := pl₃.at fun o e => ex5 _ o neDT e
 have neD2 : Dd ≠ I2 := by
  refine bc fun gG => ?_
  obtain ⟨m, e⟩ := pl₃
  refine gG ?_; clear gG
  exact (ne_oo hn2 (z₄.kp.get _ _ neDT (fun z => z) e)).symm
 have at₅ : AtL s₅.heap (ci.N md) vs pre := (at₃.kps z₄).map fun a o n e => ⟨z₅.kp.get a o n.ne (fun z => z) e, toI md hm a o n e⟩
 have hnI2 : ¬ cJ.hid I2 := fun q => by
  refine bc fun gG => ?_
  obtain ⟨_, _, _, o, e⟩ := S₄.hidO I2 (hid₃ ▸ q)
  refine gG ?_; clear gG
  exact no hn2 e
 have loop : codeAny (model pr w) A (.compLoop (.ListComp elt [⟨target, iter, [], 0⟩, ⟨target2, iter2, [], 0⟩] scope pos) 1 (.ref I2) (.ref Dd) ci.env) (fun rr s₆ => match rr with
   | .ok _ => R (.again (.compLoop (.ListComp elt [⟨target, iter, [], 0⟩, ⟨target2, iter2, [], 0⟩] scope pos) 0 (.ref I) (.ref Dd) c₃.env)) s₆
   | .error e => cameBackBy (model pr w) A c₃.env E e s₆) s₅ := by
  refine comp_last (l := ll) (g := g2) (out := fun b => some (r b)) hturn1 Rm Y1 SH it2' hm₂ hm (by rw [hidci]; exact .inr rfl) I20 (by rw [hidci]; exact .inl hid3D) hD0 neD2 (H := cJ.hid) (fun a q => by rw [hidci]; exact .inl (hid₃ ▸ q)) hnI2 pl₅ at₅ (by rw [List.length_map] at hz; exact hz) (fun b hb => ?_) ht2 fun c₆ s₆ vs₆ X₆ S₆ pl₆ at₆ hz₆ hm₆ => ?_
  ·obtain ⟨ρc, h1, h2, h3⟩ := hx b hb
   exact ⟨ρc, h1, h2, ifs_nil, h3⟩
  ·refine q { c₆ with hid := cJ.hid } s₆ vs₆ (Ext.hide X₆) (S₆.weak hw) (fun b o nT nD nm e => hz₆ b o nT (ne_oo hn2 (z₄.kp.get b o nT (fun z => z) e)).symm nD (by rw [muci]; exact nm) (ex5 b o nT e)) (fun a qa => ?_) pl₆ ?_
   ·rcases hm₆ a qa with q | q
    ·exact .inl (muci ▸ q)
    ·right
     cases e : s₃.heap.get? a with
     | none => rfl
     | some o => exact no q (ex5 a o (S₆.mutO a qa).1 e)
   ·rw [show ll.map r = ll.filterMap (fun b => some (r b)) by rw [← List.filterMap_eq_map]; rfl]; exact at₆
 rw [envci] at loop
 exact compStart1 loop ((W2 A Rm.hh).self 0 s₅ _ _ hT20 loop)
theorem comp_outer {α β : Type} {l : List α} {g : α → D} {ll : α → List β} {g2 : α → β → D} {r : α → β → D} {target iter target2 iter2 elt : PySem.Expr} {scope : Scope} {I Dd : Addr} {s₀ s₂ : Shared} {cJ cI : Cx} {A : Around} {Q : Result → Shared → Prop} {vs₀ : List Value} {m₂ : Md} {H : Addr → Prop}
  (hturn : Outer elt [⟨target, iter, [], 0⟩, ⟨target2, iter2, [], 0⟩] scope pos target iter iter2)
  (hturn1 : Last elt [⟨target, iter, [], 0⟩, ⟨target2, iter2, [], 0⟩] scope pos 1 target2 iter2 [])
  (hs2 : ∀ env x, foldedSetIterable iter2 env x = pure x)
  (Rm : Room A k) (Y0 : Ext cJ s₀ cI s₂) (SI : St w sc cI s₂.heap ρ) (it : ItAt2 w cI s₂ I m₁ (l.map g)) (hm₁ : m₁.le .free = true) (hm₂ : m₂.le .free = true) (hm : md.le .free = true)
  (hI : cI.hid I) (hI0 : s₀.heap.get? I = none) (hD : cI.hid Dd) (hD0 : s₀.heap.get? Dd = none) (neD : Dd ≠ I) (hH : ∀ a, H a → cI.hid a) (hHI : ¬ H I)
  (P0 : s₂.heap.PlainList Dd vs₀.toArray) (A0 : AtL s₂.heap (cI.N md) vs₀ []) (hz : (l.flatMap fun a => (ll a).map (r a)).length ≤ sizeLine)
  (step : ∀ a ∈ l, ∃ ρb, Bd w k sc m₁ target (g a) ρ ρb ∧ Weak ρb ρ ∧ ItOK w k sc ρb true m₂ iter2 ((ll a).map (g2 a)) ∧ ∀ b ∈ ll a, ∃ ρc, Bd w k sc m₂ target2 (g2 a b) ρb ρc ∧ Weak ρc ρb ∧ Ev w k sc ρc md elt (r a b))
  (ht : (∀ I v, letOwnedTupleGo target (.ref I) v = pure ()) ∨ ∃ elts n p, target = .Tuple elts n p) (ht2 : (∀ I v, letOwnedTupleGo target2 (.ref I) v = pure ()) ∨ ∃ elts n p, target2 = .Tuple elts n p)
  (hQ : ∀ c' s' vs, Ext cJ s₀ c' s' → St w sc { c' with hid := H } s'.heap ρ → s'.heap.PlainList Dd vs.toArray → AtL s'.heap (Cx.N { c' with hid := H } md) vs (l.flatMap fun a => (ll a).map (r a)) → Q (.ok .next) s') :
  codeAny (model pr w) A (.compLoop (.ListComp elt [⟨target, iter, [], 0⟩, ⟨target2, iter2, [], 0⟩] scope pos) 0 (.ref I) (.ref Dd) cI.env) Q s₂ := by
 refine comp_turns (f := fun a => (ll a).map (r a)) (rs₀ := []) (B := fun env => do
   let x ← eval iter2 env
   standAt iter2.pos
   let x ← foldedSetIterable iter2 env x
   let y ← holding [x] (pyIter x)
   let _ ← runOwn (.compStart (.ListComp elt [⟨target, iter, [], 0⟩, ⟨target2, iter2, [], 0⟩] scope pos) 1 y (.ref Dd) env) env
   again (.compLoop (.ListComp elt [⟨target, iter, [], 0⟩, ⟨target2, iter2, [], 0⟩] scope pos) 0 (.ref I) (.ref Dd) env)) (fun env => hturn _ _ env) Rm Y0 SI it hm₁ hm hI hI0 hD neD hH hHI P0 A0 (by rw [List.length_nil, Nat.zero_add]; exact hz) (fun a ha => ?_) ht fun c' s' vs X S p q _ _ => hQ c' s' vs X S p q
 obtain ⟨ρb, hb, hw, hit2, hx⟩ := step a ha
 exact ⟨ρb, hb, item_clause hturn1 hs2 Rm hm₂ hm hD0 hw hit2 hx ht2⟩
theorem comp_run2 {α β : Type} {l : List α} {g : α → D} {ll : α → List β} {g2 : α → β → D} {r : α → β → D} {m₂ : Md} {target iter target2 iter2 elt : PySem.Expr} {scope : Scope} {caps : Rho} {locs : List Str}
  (hit : ItOK w k sc ρ false m₁ iter (l.map g)) (hc : ∀ p ∈ caps, p ∈ ρ) (ok : compOk scope sc (caps.map (·.1)) locs = true)
  (step : ∀ a ∈ l, ∃ ρb, Bd w k (relab scope sc) m₁ target (g a) (rhoC caps locs) ρb ∧ Weak ρb (rhoC caps locs) ∧ ItOK w k (relab scope sc) ρb true m₂ iter2 ((ll a).map (g2 a)) ∧ ∀ b ∈ ll a, ∃ ρc, Bd w k (relab scope sc) m₂ target2 (g2 a b) ρb ρc ∧ Weak ρc ρb ∧ Ev w k (relab scope sc) ρc md elt (r a b))
  (ht : (∀ I v, letOwnedTupleGo target (.ref I) v = pure ()) ∨ ∃ elts n p, target = .Tuple elts n p) (hz : (l.flatMap fun a => (ll a).map (r a)).length ≤ sizeLine) (hm₁ : m₁.le .free = true) (hm : md.le .free = true)
  (hs : ∀ env x, foldedSetIterable iter env x = pure x) (hturn : Outer elt [⟨target, iter, [], 0⟩, ⟨target2, iter2, [], 0⟩] scope pos target iter iter2) (hturn1 : Last elt [⟨target, iter, [], 0⟩, ⟨target2, iter2, [], 0⟩] scope pos 1 target2 iter2 []) (hs2 : ∀ env x, foldedSetIterable iter2 env x = pure x) (ht2 : (∀ I v, letOwnedTupleGo target2 (.ref I) v = pure ()) ∨ ∃ elts n p, target2 = .Tuple elts n p) (hm₂ : m₂.le .free = true) :
  CompOK w k sc ρ md (.ListComp elt [⟨target, iter, [], 0⟩, ⟨target2, iter2, [], 0⟩] scope pos) scope iter (l.flatMap fun a => (ll a).map (r a)) :=
 comp_go hit hc ok hm₁ hm hs fun A Rm Q cc s₁ s₄ I Dd Y0 SC it hI hn hD D0 ne pl k =>
  comp_outer hturn hturn1 hs2 Rm Y0 SC it hm₁ hm₂ hm hI hn hD D0 ne (H := fun a => a = Dd) (fun a q => q ▸ hD) (Ne.symm ne) (vs₀ := []) pl .nil hz step ht ht2 k
theorem es_comp2 {α β : Type} {l : List α} {g : α → D} {ll : α → List β} {g2 : α → β → D} {rr : α → β → D} {m₂ : Md} {target iter target2 iter2 elt : PySem.Expr} {scope : Scope} {fr : Bool} {p₂ : Pos} {R : D → Prop} {rs : List D} (caps : Rho) (locs : List Str)
  (hit : ItOK w k sc ρ false m₁ iter (l.map g)) (hc : ∀ p ∈ caps, p ∈ ρ) (ok : compOk scope sc (caps.map (·.1)) locs = true)
  (step : ∀ a ∈ l, ∃ ρb, Bd w k (relab scope sc) m₁ target (g a) (rhoC caps locs) ρb ∧ Weak ρb (rhoC caps locs) ∧ ItOK w k (relab scope sc) ρb true m₂ iter2 ((ll a).map (g2 a)) ∧ ∀ b ∈ ll a, ∃ ρc, Bd w k (relab scope sc) m₂ target2 (g2 a b) ρb ρc ∧ Weak ρc ρb ∧ Ev w k (relab scope sc) ρc (Md.of fr) elt (rr a b))
  (hz : (l.flatMap fun a => (ll a).map (rr a)).length ≤ sizeLine) (u : Upd ρ x (.dat fr (.lst rs)) ρ')
  (hx : isStore sc x = true)
  (hsw : ∀ env : Env, swapsWith (.ListComp elt [⟨target, iter, [], 0⟩, ⟨target2, iter2, [], 0⟩] scope pos) (some (.Name x p₁)) p₂.line { env with scope := sc } = pure true := by intro _; kernel_rfl) (ht : (∀ I v, letOwnedTupleGo target (.ref I) v = pure ()) ∨ ∃ elts n p, target = .Tuple elts n p := by first | exact .inl (fun _ _ => rfl) | exact .inr ⟨_, _, _, rfl⟩) (hm₁ : m₁.le .free = true := by rfl)
  (hs : ∀ env x, foldedSetIterable iter env x = pure x := by intro _ _; rfl) (hturn : Outer elt [⟨target, iter, [], 0⟩, ⟨target2, iter2, [], 0⟩] scope pos target iter iter2 := by intro _ _ _; rfl) (hturn1 : Last elt [⟨target, iter, [], 0⟩, ⟨target2, iter2, [], 0⟩] scope pos 1 target2 iter2 [] := by intro _ _ _; rfl) (hs2 : ∀ env x, foldedSetIterable iter2 env x = pure x := by intro _ _; rfl) (ht2 : (∀ I v, letOwnedTupleGo target2 (.ref I) v = pure ()) ∨ ∃ elts n p, target2 = .Tuple elts n p := by first | exact .inl (fun _ _ => rfl) | exact .inr ⟨_, _, _, rfl⟩) (hm₂ : m₂.le .free = true := by rfl) (hrs : (l.flatMap fun a => (ll a).map (rr a)) = rs := by rfl) : Es w k sc ρ (.Assign [.Name x p₁] (.ListComp elt [⟨target, iter, [], 0⟩, ⟨target2, iter2, [], 0⟩] scope pos) p₂) (fun r => r = ρ') R :=
 es_compG (hrs ▸ comp_run2 hit hc ok step ht hz hm₁ (by cases fr <;> rfl) hs hturn hturn1 hs2 ht2 hm₂) u hx hsw
end
noncomputable def dfl : List Int := [1320, 1018, 3413, 1256, 1819, 420, 2852]
noncomputable def numsOf (s : List Int) : List Int := s.take 7 ++ dfl.drop (s.take 7).length
noncomputable def xsOf (s : List Int) : List Nat := (numsOf s).map fun x => (x % 3888).toNat
noncomputable def nameAt (i : Nat) : Str := names6.getD i ⟨#[]⟩
noncomputable def textOf (xs : List Nat) : Str := Txt.join (sz ";") (xs.map written)
noncomputable def psOf (xs : List Nat) : List Str := piecesF (prepF (textOf xs).cps.toList)
noncomputable def rowOf (xs : List Nat) : List Str := rowF (psOf xs)
noncomputable def waysL (xs : List Nat) : List (Nat × Nat) := xs.flatMap waysOf
noncomputable def stepsL (xs : List Nat) : List (Str × Str) := (waysL xs).map fun p => (nameAt p.1, nameAt p.2)
noncomputable def tabL (xs : List Nat) : List (Str × Str) := (stepsL xs).map fun p => (p.2, p.1)
noncomputable def aheadL (xs : List Nat) : List (List Nat) := (rowOf xs).map fun place => (allOf (tabL xs) place).map (posIn (rowOf xs))
noncomputable def begR (xs : List Nat) : Nat := posIn (rowOf xs) ((psOf xs).headD ⟨#[]⟩)
noncomputable def begN (xs : List Nat) : Nat := leftOf (xs.headD 0)
noncomputable def a0 (xs : List Nat) : List Int := ((aheadL xs).map fun _ => (-1 : Int)).set (begR xs) (begR xs)
noncomputable def chainsL (xs : List Nat) (F : Nat) : List (List Nat) := (List.range (aheadL xs).length).map (chainOf (settle (begR xs) (aheadL xs) F (a0 xs)))
noncomputable def toldL (xs : List Nat) (F : Nat) : List (List Str) := toldF names6 (rowOf xs) (chainsL xs F)
noncomputable def dueL (xs : List Nat) : List (List Str) := dueF names6 (waysL xs) (begN xs)
noncomputable def keepW (told : List (List Str)) (p : Nat × Nat) : Bool := (told.getD p.1 [] != []) && (!(told.getD p.1 []).contains (nameAt p.2) && tt .And)
noncomputable def secL (xs : List Nat) (told : List (List Str)) : List (Str × Str) := ((waysL xs).filter (keepW told)).map fun p => (nameAt p.1, nameAt p.2)
structure LawF (xs : List Nat) (F : Nat) (zs : Nat → List D × List (Str × Str)) (Inv : List Int → Prop) (InvK : List (Nat × Nat) → List Nat → Prop) (r : Bool) : Prop where
 lt : ∀ x ∈ xs, x < 3888
 len : xs.length = 7
 join : JoinOk (sz ";") (xs.map written) = true
 tl : (textOf xs).length ≤ 1000
 pl : (prepF (textOf xs).cps.toList).length ≤ 1000
 psl : (psOf xs).length ≤ 100
 pne : psOf xs ≠ []
 rl : (rowOf xs).length ≤ 6
 r6 : ∀ x ∈ rowOf xs, x ∈ names6
 st0 : zs 0 = ([], [])
 sts : ∀ i s, ((psOf xs).map (symOf (rowOf xs)) ++ [0])[i]? = some s → s < 2 ^ 40 ∧ stepS (rowOf xs) (zs i) s = some (zs (i + 1))
 stz : ∀ i, i ≤ (psOf xs).length + 1 → (zs i).1.length ≤ 100 ∧ (zs i).2.length ≤ 1000
 ste : (zs ((psOf xs).length + 1)).2 = stepsL xs
 w6 : ∀ p ∈ waysL xs, p.1 < 6 ∧ p.2 < 6
 wl : (waysL xs).length ≤ 14
 C : ChainsOK (begR xs) (aheadL xs) Inv
 I0 : Inv (a0 xs)
 hF : stops (begR xs) (aheadL xs) F (a0 xs)
 hp : ∀ nm ∈ names6, (rowOf xs).contains nm = true → posIn (rowOf xs) nm < (chainsL xs F).length
 hc : ∀ c ∈ chainsL xs F, c.length ≤ 6 ∧ ∀ j ∈ c, j < (rowOf xs).length
 due : toldL xs F = dueL xs
 shk : ShrinkOK InvK
 shI : InvK (left0 (waysL xs) (reachF (waysL xs) (begN xs) (-1))) (live0 (reachF (waysL xs) (begN xs) (-1)) (begN xs))
 emp : Emp (secL xs (dueL xs)) r
 shr : shrink (live0 (reachF (waysL xs) (begN xs) (-1)) (begN xs)).length (left0 (waysL xs) (reachF (waysL xs) (begN xs) (-1))) (live0 (reachF (waysL xs) (begN xs) (-1)) (begN xs)) = r
noncomputable def rhoW (script numbers drawn pieces row steps names ways a b table one two ahead chains told begin second : LV) : Rho := [(sz "script", script), (sz "numbers", numbers), (sz "drawn", drawn), (sz "pieces", pieces), (sz "row", row), (sz "steps", steps), (sz "names", names), (sz "ways", ways), (sz "a", a), (sz "b", b), (sz "table", table), (sz "one", one), (sz "two", two), (sz "ahead", ahead), (sz "chains", chains), (sz "told", told), (sz "begin", begin), (sz "second", second)]
theorem Ev.as {w : World} {k : Nat} {sc : Scope} {ρ : Rho} {md : Md} {e : PySem.Expr} {d d' : D} (h : Ev w k sc ρ md e d) (x : d = d') : Ev w k sc ρ md e d' := x ▸ h
theorem fm_map {α β : Type} (f : α → β) (l : List α) : l.filterMap (fun a => some (f a)) = l.map f := by rw [← List.filterMap_eq_map]; rfl
theorem pick_take {α : Type} (l : List α) (n : Nat) : pick l none (some (n : Int)) = l.take n := by
 unfold pick
 have h : ¬ ((n : Int) < 0) := by lia
 simp [kms_lo, kms_hi, h, List.take_eq_take_iff]
theorem pick_drop {α : Type} (l : List α) (n : Nat) : pick l (some (n : Int)) none = l.drop n := by
 have h : ¬ ((n : Int) < 0) := by lia
 show (l.drop (if (n : Int) < 0 then l.length - (-(n : Int)).toNat else min (n : Int).toNat l.length)).take (l.length - (if (n : Int) < 0 then l.length - (-(n : Int)).toNat else min (n : Int).toNat l.length)) = _
 rw [if_neg h, Int.toNat_natCast]
 rcases Nat.le_total n l.length with h1 | h1
 ·rw [Nat.min_eq_left h1, List.take_of_length_le (by simp)]
 ·rw [Nat.min_eq_right h1, Nat.sub_self, List.take_zero, List.drop_of_length_le h1]
theorem callWith_fn1 {w : World} {A : Around} {E : Value → Shared → Prop} {s : Shared} {fa : Addr} {ob : Obj} {fd : FuncData} {pos : Pos} {e : PySem.Expr} {env : Env} {Q : Value → Shared → Prop} (hp : plainE e = true) (h : wpAny (model pr w) A (eval e env) (fun v s₁ => (s₁.heap.get? fa = some ob ∧ ob.data = .func fd) ∧ wpAny (model pr w) A (call (.ref fa) [v]) Q E s₁) E s) : wpAny (model pr w) A (callWith pos (.ref fa) [] (backTo pos (starEach [e] env)) []) Q E s := by
 refine callWith_function (o := ob) (fd := fd) ?_
 rw [starEach_plain hp]; refine evalArgs_plain ?_
 have key : wpAny (model pr w) A (spliced (backTo pos (starEach [e] env))) (fun vs s₁ => (s₁.heap.get? fa = some ob ∧ ob.data = .func fd) ∧ wpAny (model pr w) A (call (.ref fa) ([] ++ vs) []) Q E s₁) E s := wpAny_items_cons (wpAny_mono h (fun v s₁ h => wpAny_items_nil h) fun _ _ z => z) (starEach_plain hp)
 rw [starEach_plain hp] at key; exact key
theorem law_ok (w : World) (k : Nat) (script : List Int) (hs : script.length ≤ 63) {F : Nat} {zs : Nat → List D × List (Str × Str)} {Inv : List Int → Prop} {InvK : List (Nat × Nat) → List Nat → Prop} {r : Bool} (L : LawF (xsOf script) F zs Inv InvK r) : FnOK w (k + 6) 385 [.lst (script.map .int)] [] (.bool true) := by
 refine fn_ok (F_law w) (hids := [sz "numbers", sz "drawn", sz "pieces", sz "row", sz "steps", sz "names", sz "ways", sz "a", sz "b", sz "table", sz "one", sz "two", sz "ahead", sz "chains", sz "told", sz "begin", sz "second"]) (B_law w _) rfl (by decide +kernel) (by kernel_rfl) ?_
 show Ex w (k + 5) (sc (st 85)) (rhoW (.dat false (.lst (script.map .int))) .hid .hid .hid .hid .hid .hid .hid .hid .hid .hid .hid .hid .hid .hid .hid .hid .hid) (bo (st 85)) _ _
 conv in bo (st 85) => whnf
 obtain ⟨xs, hxs⟩ : ∃ xs, xs = xsOf script := ⟨_, rfl⟩
 rw [← hxs] at L
 have hfl : ∀ l : List Int, (l.map D.int).all D.flat = true := fun l => List.all_eq_true.mpr fun d m => by obtain ⟨z, _, rfl⟩ := List.mem_map.mp m; rfl
 have hsz : (script.map D.int).length ≤ sizeLine := by rw [List.length_map]; show _ ≤ 16777216; lia
 have e1 : pick (script.map D.int) none (some (7 : Int)) = (script.take 7).map D.int := by rw [show (7 : Int) = ((7 : Nat) : Int) from rfl, pick_take, List.map_take]
 have t7 : (script.take 7).length ≤ 7 := by rw [List.length_take]; lia
 refine ex_seq (es_assign (fr := true) (d := .lst ((numsOf script).map .int)) ((ev_bin ((ev_sliceF (md := .fresh) (ev_dat m0) evo_none (evo_some ev_int) hsz (hfl _)).as (congrArg D.lst e1)) (ev_sliceL (md := .fresh) (ds := dfl.map .int) (ev_list (md := .fresh) (evl_cons ev_int (evl_cons ev_int (evl_cons ev_int (evl_cons ev_int (evl_cons ev_int (evl_cons ev_int (evl_cons ev_int evl_nil)))))))) (evo_some ((ev_b1 evv_builtin ((ev_sliceF (md := .fresh) (ev_dat m0) evo_none (evo_some ev_int) hsz (hfl _)).as (congrArg D.lst e1)) (bi_lenL (by rw [List.length_map]; lia))).as (d' := .int ((script.take 7).length : Nat)) (by rw [List.length_map]))) evo_none (by decide)) (bin_addL (md := .fresh) (by rw [pick_drop, List.length_map, List.length_drop, List.length_map]; show _ + (7 - _) ≤ 16777216; lia))).as ?_) u1) ?_
 ·rw [pick_drop]; show D.lst _ = D.lst ((script.take 7 ++ dfl.drop (script.take 7).length).map D.int); rw [List.map_append, List.map_drop]
 have hd : (numsOf script).filterMap (fun x : Int => some (dDrawn (x % 3888).toNat)) = xs.map dDrawn := by rw [fm_map, hxs]; unfold xsOf; rw [List.map_map]; rfl
 refine ex_seq (es_comp (hrs := hd) (fr := true) (m₁ := .fresh) (l := numsOf script) (g := D.int) (out := fun x : Int => some (dDrawn (x % 3888).toNat)) [] [sz "x"] (it_list (ev_dat m1)) (fun p q => by cases q) (by kernel_rfl) (fun x hx => ⟨_, bd_name (fr := false) u0, .hide .nil, ifs_nil, ev_call evv_glob (F_drawn w) (evl_cons (ev_bin (ev_dat m0) ev_int (bin_mod (by lia))) evl_nil) ?_⟩) ?_ u2 (by kernel_rfl)) ?_
 ·have h1 : ((x % 3888).toNat : Int) = x % 3888 := Int.toNat_of_nonneg (Int.emod_nonneg _ (by decide))
  have h2 : (x % 3888).toNat < 3888 := by have := Int.emod_lt_of_pos x (show (0 : Int) < 3888 by decide); lia
  rw [← h1]; exact drawn_ok w (k + 4) _ h2
 ·have := L.len
  rw [hxs] at this
  have : (numsOf script).length = 7 := by unfold xsOf at this; rwa [List.length_map] at this
  rw [this]; decide
 have hl7 : xs.length = 7 := L.len
 have hwr : xs.filterMap (fun x => some (D.str (written x))) = (xs.map written).map D.str := by rw [fm_map, List.map_map]; rfl
 refine ex_seq (es_assign (fr := true) (ev_call evv_glob (F_pieces w) (evl_cons (ev_call evv_glob (F_prep w) (evl_cons (ev_join (l := xs.map written) (res := textOf xs) L.join rfl ((ev_comp (md := .fresh) (m₁ := .fresh) (l := xs) (g := dDrawn) (out := fun x => some (D.str (written x))) [] [sz "pair"] (it_list (ev_dat m2)) (fun p q => by cases q) (by kernel_rfl) (fun x hx => ⟨_, bd_name (fr := true) u0, .hide .nil, ifs_nil, (ev_sub (ev_dat m0) ev_int (sub_tup (ds := [.str (written x), dWays (waysOf x)]) (by lia) (by lia) rfl)).up⟩) (by rw [hl7]; decide)).as (congrArg D.lst hwr))) evl_nil) (prep_ok w (k + 3) (textOf xs) L.tl)) evl_nil) (pieces_ok w (k + 4) _ L.pl)) u3) ?_
 refine ex_seq (es_assign (fr := true) (ev_call evv_glob (F_row w) (evl_cons (ev_dat m3) evl_nil) (row_ok w (k + 2) (psOf xs) L.psl)) u4) ?_
 refine ex_seq (es_assign (fr := true) (d := .lst ((stepsL xs).map dStep)) ((ev_call evv_glob (F_steps w) (evl_cons (ev_dat m3) (evl_cons (ev_dat m4) evl_nil)) (steps_ok w (k + 3) (psOf xs) (rowOf xs) L.psl L.rl zs L.st0 L.sts L.stz)).as (by rw [L.ste])) u5) ?_
 refine ex_seq (es_assign (fr := true) (d := dStrs names6) (ev_list (md := .fresh) (evl_cons ev_str (evl_cons ev_str (evl_cons ev_str (evl_cons ev_str (evl_cons ev_str (evl_cons ev_str evl_nil))))))) u6) ?_
 have hwl := L.wl
 have hw : (xs.flatMap fun a => (waysOf a).map dPair) = (waysL xs).map dPair := by unfold waysL; rw [List.map_flatMap]
 refine ex_seq (es_comp2 (hrs := hw) (fr := true) (m₁ := .fresh) (m₂ := .fresh) (l := xs) (g := dDrawn) (ll := waysOf) (g2 := fun _ p => dPair p) (rr := fun _ p => dPair p) [] [sz "pair", sz "way"] (it_list (ev_dat m2)) (fun p q => by cases q) (by kernel_rfl) (fun x hx => ⟨_, bd_name (fr := true) u0, .hide (.keep .nil), it_list (ev_sub (ev_dat m0) ev_int (sub_tup (ds := [.str (written x), dWays (waysOf x)]) (by lia) (by lia) rfl)), fun p hp => ⟨_, bd_name (fr := true) u1, .keep (.hide .nil), ev_dat m1⟩⟩) ?_ u7 (by kernel_rfl)) ?_
 ·rw [hw, List.length_map]; show _ ≤ 16777216; lia
 have nm : ∀ i, i < 6 → (names6.map D.str)[((i : Nat) : Int).toNat]? = some (.str (nameAt i)) := fun i hi => by rw [Int.toNat_natCast]; exact getD_map (a := (⟨#[]⟩ : Str)) D.str hi
 have hst : (waysL xs).filterMap (fun p => some (dStep (nameAt p.1, nameAt p.2))) = (stepsL xs).map dStep := by rw [fm_map]; unfold stepsL; rw [List.map_map]; rfl
 have n6 : ∀ i, i < 6 → nameAt i ∈ names6 := fun i hi => by unfold nameAt; rw [List.getD_eq_getElem?_getD, List.getElem?_eq_getElem (show i < names6.length from hi)]; exact List.getElem_mem _
 have st6 : ∀ p ∈ stepsL xs, p.1 ∈ names6 ∧ p.2 ∈ names6 := fun p hp => by
  unfold stepsL at hp
  obtain ⟨q, hq, rfl⟩ := List.mem_map.mp hp
  exact ⟨n6 _ (L.w6 q hq).1, n6 _ (L.w6 q hq).2⟩
 have oks : D.ok 2 (.lst ((stepsL xs).map dStep)) = true := by rw [D.ok]; exact steps_ok6 _ st6
 refine ex_seq (es_if (b := false) (K := fun r => r = _) (ts_cmp (ev_dat m5) ((ev_comp (md := .fresh) (m₁ := .fresh) (l := waysL xs) (g := dPair) (out := fun p => some (dStep (nameAt p.1, nameAt p.2))) [(sz "names", .dat true (dStrs names6))] [sz "a", sz "b"] (it_list (ev_dat m7)) (caps1 m6) (by kernel_rfl) (fun p hp => ?_) (by show _ ≤ 16777216; lia)).as (congrArg D.lst hst)) (cmp_neD 2 oks oks ⟨(fun z => by cases z), fun z => absurd rfl z⟩)) (fun h => by cases h) (fun _ => ex_nil rfl)) ?_
 ·obtain ⟨h1, h2⟩ := L.w6 p hp
  refine ⟨_, bd_pair (f₁ := false) (f₂ := false) u1 u2, .keep (.hide (.hide .nil)), ifs_nil, ev_tuple (md := .fresh) (evl_cons (ev_sub (ev_dat m0) (ev_dat m1) (sub_list (by lia) (by lia) (nm _ h1))) (evl_cons (ev_sub (ev_dat m0) (ev_dat m2) (sub_list (by lia) (by lia) (nm _ h2))) evl_nil))⟩
 refine ex_seq (es_newH u10 (by kernel_rfl) (evv_glob (v := .ref 297))) ?_
 obtain ⟨dsc, hdsc⟩ : ∃ x, x = (LV.dat false (.lst (script.map .int))) := ⟨_, rfl⟩
 obtain ⟨dnu, hdnu⟩ : ∃ x, x = (LV.dat true (.lst ((numsOf script).map .int))) := ⟨_, rfl⟩
 obtain ⟨ddr, hddr⟩ : ∃ x, x = (LV.dat true (.lst (xs.map dDrawn))) := ⟨_, rfl⟩
 let ρt : LV → LV → LV → LV → LV → LV → LV → LV → LV → LV → LV → Rho := fun a b table one two ahead chains told begin second z => rhoW (.dat false (.lst (script.map .int))) (.dat true (.lst ((numsOf script).map .int))) z (.dat true (dStrs (psOf xs))) (.dat true (dStrs (rowOf xs))) (.dat true (.lst ((stepsL xs).map dStep))) (.dat true (dStrs names6)) (.dat true (dWays (waysL xs))) a b table one two ahead chains told begin second
 have hsl : (stepsL xs).length = (waysL xs).length := by unfold stepsL; exact List.length_map _
 refine ex_cons (es_for (K := fun r => r = ρt .hid .hid (.own true ((tabL xs).map dStep)) .hid .hid .hid .hid .hid .hid .hid .hid) (fun i => ρt .hid .hid (.own true ((((stepsL xs).take i).map fun p => (p.2, p.1)).map dStep)) .hid .hid .hid .hid .hid .hid .hid .hid) (it_list (ev_dat m5)) (by exact .keep (.keep (.hide (.keep (.keep (.keep (.keep (.keep (.keep (.keep (.keep (.keep (.keep (.keep (.keep (.keep (.keep (.keep .nil)))))))))))))))))) (fun i d hd => ?_) ?_) fun _ e => e ▸ ?_
 ·rw [List.getElem?_map] at hd
  obtain ⟨p, hp, rfl⟩ := Option.map_eq_some_iff.mp hd
  obtain ⟨s1, s2⟩ := st6 p (List.mem_of_getElem? hp)
  have ht : ((stepsL xs).take (i + 1)).map (fun p => (p.2, p.1)) = ((stepsL xs).take i).map (fun p => (p.2, p.1)) ++ [(p.2, p.1)] := by
   rw [List.take_add_one, hp, Option.toList_some, List.map_append]; rfl
  refine ⟨_, bd_pair (f₁ := true) (f₂ := true) (d₁ := .str p.1) (d₂ := .str p.2) u11 u12, ?_⟩
  refine ex_seq (es_add (ev_dat m12) (ev_dat m11) s2 s1 m10 u10 (by rw [List.length_map, List.length_take]; lia)) (ex_nil ?_)
  rw [← ht]
  exact .keep (.keep (.keep (.keep (.keep (.keep (.keep (.keep (.keep (.keep (.keep (.hide (.hide (.keep (.keep (.keep (.keep (.keep .nil)))))))))))))))))
 ·show ρt _ _ (.own true ((((stepsL xs).take ((stepsL xs).map dStep).length).map fun p => (p.2, p.1)).map dStep)) _ _ _ _ _ _ _ _ = _
  rw [List.length_map, List.take_length]; rfl
 have hrl := L.rl
 have htl : (tabL xs).length ≤ 1000 := by unfold tabL; rw [List.length_map]; lia
 have ht6 : ∀ p ∈ tabL xs, p.1 ∈ names6 := fun p hp => by
  unfold tabL at hp
  obtain ⟨q, hq, rfl⟩ := List.mem_map.mp hp
  exact (st6 q hq).2
 have hal : ∀ x, (allOf (tabL xs) x).length ≤ 1000 := fun x => by
  unfold allOf; rw [List.length_map]; exact Nat.le_trans (List.length_filter_le _ _) htl
 have hah : (rowOf xs).filterMap (fun place => some (D.lst ((allOf (tabL xs) place).filterMap fun nm => some (D.int (posIn (rowOf xs) nm))))) = (aheadL xs).map dNs := by
  rw [fm_map]; unfold aheadL; rw [List.map_map]
  refine List.map_congr_left fun pl _ => ?_
  show D.lst _ = D.lst _
  rw [fm_map, List.map_map]; rfl
 refine ex_seq (es_comp (hrs := hah) (fr := true) (m₁ := .fresh) (l := rowOf xs) (g := D.str) (out := fun place => some (D.lst ((allOf (tabL xs) place).filterMap fun nm => some (D.int (posIn (rowOf xs) nm))))) [(sz "row", .dat true (dStrs (rowOf xs))), (sz "table", .own true ((tabL xs).map dStep))] [sz "place"] (it_list (ev_dat m4)) (caps2 m4 m10) (by kernel_rfl) (fun pl hpl => ?_) (by show _ ≤ 16777216; lia) u13 (by kernel_rfl)) ?_
 ·have p6 := L.r6 pl hpl
  refine ⟨_, bd_name (fr := true) u2, .keep (.keep (.hide .nil)), ifs_nil, ev_comp (md := .fresh) (m₁ := .fresh) (l := allOf (tabL xs) pl) (g := D.str) (out := fun nm => some (D.int (posIn (rowOf xs) nm))) [(sz "row", .dat true (dStrs (rowOf xs)))] [sz "name"] (it_list (ev_meth (ev_ro m1) (M_getall w) (evl_cons (ev_upper (upper6 pl p6).2.2 (ev_dat m2)) evl_nil) (getall_ok w (k + 3) (tabL xs) htl ht6 pl p6))) (caps1 m0) (by kernel_rfl) (fun nm hnm => ⟨_, bd_name (fr := true) u1, .keep (.hide .nil), ifs_nil, (ev_call evv_glob (F_bleft w) (evl_cons (ev_dat m0) (evl_cons (ev_dat m1) evl_nil)) (bleft_ok w (k + 4) (rowOf xs) nm (by lia)))⟩) (by have := hal pl; show _ ≤ 16777216; lia)⟩
 have hps : ((psOf xs).map D.str)[(0 : Int).toNat]? = some (.str ((psOf xs).headD ⟨#[]⟩)) := by
  cases h : psOf xs with
  | nil => exact absurd h L.pne
  | cons p ps => rfl
 refine ex_seq (es_assign (fr := true) (d := dNss (chainsL xs F)) (ev_call evv_glob (F_chains w) (evl_cons (ev_dat m13) (evl_cons (ev_call evv_glob (F_bleft w) (evl_cons (ev_dat m4) (evl_cons (ev_sub (ev_dat m3) ev_int (sub_list (by lia) (by lia) hps)) evl_nil)) (bleft_ok w (k + 4) (rowOf xs) _ (by lia))) evl_nil)) (chains_ok L.C w (k + 1) (a0 xs) rfl L.I0 F L.hF)) u14) ?_
 have hcl : (chainsL xs F).length ≤ 6 := by unfold chainsL aheadL; rw [List.length_map, List.length_range, List.length_map]; exact hrl
 refine ex_seq (es_assign (fr := true) (d := dRows (dueL xs)) ((ev_call evv_glob (F_told w) (evl_cons (ev_dat m6) (evl_cons (ev_dat m4) (evl_cons (ev_dat m14) evl_nil))) (told_ok w (k + 3) names6 (rowOf xs) (chainsL xs F) (by decide) hrl hcl L.hp L.hc)).as (congrArg dRows L.due)) u15) ?_
 have hx0 : ∃ z zs', numsOf script = z :: zs' := by
  cases h : numsOf script with
  | nil => rw [hxs] at hl7; unfold xsOf at hl7; rw [h] at hl7; cases hl7
  | cons z zs' => exact ⟨z, zs', rfl⟩
 obtain ⟨z₀, zs₀, hz₀⟩ := hx0
 have hbn : ((z₀ % 3888 / 4 % 6 : Int)) = (begN xs : Int) := by
  unfold begN
  rw [hxs]; unfold xsOf; rw [hz₀]
  show _ = ((leftOf (z₀ % 3888).toNat : Nat) : Int)
  unfold leftOf
  have h1 : ((z₀ % 3888).toNat : Int) = z₀ % 3888 := Int.toNat_of_nonneg (Int.emod_nonneg _ (by decide))
  lia
 have hb6 : begN xs < 6 := by unfold begN leftOf; lia
 refine ex_seq (es_assign (fr := false) (d := .int (begN xs)) ((ev_bin (ev_bin (ev_bin (ev_sub (ev_dat m1) ev_int (sub_list (d := .int z₀) (by lia) (by lia) (by rw [hz₀]; rfl))) ev_int (bin_mod (by lia))) ev_int (bin_fdiv (by lia) (by lia))) ev_int (bin_mod (by lia))).as (by rw [hbn])) u16) ?_
 have okr : D.ok 2 (dRows (dueL xs)) = true := by
  unfold dRows
  rw [D.ok, List.all_map, List.all_eq_true]
  intro l hl
  show D.ok 1 (.lst _) = true
  rw [D.ok]
  refine strs_ok _ fun x hx => ?_
  unfold dueL dueF at hl
  obtain ⟨v, hv, rfl⟩ := List.mem_map.mp hl
  unfold dueAt at hx
  split at hx
  ·unfold sortS at hx
   rw [List.mem_mergeSort] at hx
   unfold domOf at hx
   obtain ⟨d, hd, e⟩ := List.mem_filterMap.mp hx
   split at e
   ·cases e; exact n6 d (List.mem_range.mp hd)
   ·cases e
  ·cases hx
 have hwl' : (waysL xs).length ≤ 1000 := by lia
 refine ex_seq (es_if (b := false) (K := fun r => r = _) (ts_cmp (ev_dat m15) (ev_call evv_glob (F_due w) (evl_cons (ev_dat m6) (evl_cons (ev_dat m7) (evl_cons (ev_dat m16) evl_nil))) (due_ok w (k + 3) names6 (waysL xs) (begN xs) L.w6 hb6 hwl' (by decide))) (cmp_neD 2 okr okr ⟨(fun z => by cases z), fun z => absurd rfl z⟩)) (fun h => by cases h) (fun _ => ex_nil rfl)) ?_
 refine ex_seq (es_newH u17 (by kernel_rfl) (evv_glob (v := .ref 297))) ?_
 have hemp := L.emp
 have hshr := L.shr
 generalize hdl : dueL xs = dl at hemp okr hshr ⊢
 have hdll : dl.length = 6 := by rw [← hdl]; unfold dueL dueF; rw [List.length_map, List.length_range]; rfl
 have hd6 : ∀ l ∈ dl, D.ok 1 (dStrs l) = true := fun l hl => by
  have := okr
  unfold dRows at this
  rw [D.ok, List.all_map, List.all_eq_true] at this
  exact this l hl
 have hdi : ∀ i, i < 6 → (dl.map dStrs)[((i : Nat) : Int).toNat]? = some (dStrs (dl.getD i [])) := fun i hi => by rw [Int.toNat_natCast]; exact getD_map (a := ([] : List Str)) dStrs (by lia)
 let sec : List (Nat × Nat) → List (Str × Str) := fun l => (l.filter (keepW dl)).map fun p => (nameAt p.1, nameAt p.2)
 let ρs : LV → LV → List (Str × Str) → Rho := fun a b l => rhoW (.dat false (.lst (script.map .int))) (.dat true (.lst ((numsOf script).map .int))) .hid (.dat true (dStrs (psOf xs))) (.dat true (dStrs (rowOf xs))) (.dat true (.lst ((stepsL xs).map dStep))) (.dat true (dStrs names6)) (.dat true (dWays (waysL xs))) a b (.own true ((tabL xs).map dStep)) .hid .hid (.dat true (dNss (aheadL xs))) (.dat true (dNss (chainsL xs F))) (.dat true (dRows dl)) (.dat false (.int (begN xs))) (.own true (l.map dStep))
 refine ex_cons (es_for (K := fun r => r = ρs .hid .hid (secL xs dl)) (fun i => ρs .hid .hid (sec ((waysL xs).take i))) (it_list (ev_dat m7)) (by exact .refl _) (fun i d hd => ?_) ?_) fun _ e => e ▸ ?_
 ·rw [List.getElem?_map] at hd
  obtain ⟨p, hp, rfl⟩ := Option.map_eq_some_iff.mp hd
  obtain ⟨h1, h2⟩ := L.w6 p (List.mem_of_getElem? hp)
  have hlt := List.length_filter_le (keepW dl) ((waysL xs).take i)
  rw [List.length_take] at hlt
  have ht : sec ((waysL xs).take (i + 1)) = if keepW dl p then sec ((waysL xs).take i) ++ [(nameAt p.1, nameAt p.2)] else sec ((waysL xs).take i) := by
   show (((waysL xs).take (i + 1)).filter (keepW dl)).map _ = _
   rw [List.take_add_one, hp, Option.toList_some, List.filter_append, List.map_append, List.filter_cons]
   split
   ·rfl
   ·rw [List.filter_nil, List.map_nil, List.append_nil]
  refine ⟨_, bd_pair (f₁ := false) (f₂ := false) (d₁ := .int p.1) (d₂ := .int p.2) u8 u9, ?_⟩
  have mem : dl.getD p.1 [] ∈ dl := by rw [List.getD_eq_getElem?_getD, List.getElem?_eq_getElem (by lia)]; exact List.getElem_mem _
  refine ex_cons (es_if (K := fun r => Weak r (ρs .hid .hid (sec ((waysL xs).take (i + 1))))) (b := keepW dl p) (ts_boolop (allT_and (ts_cmp (ev_sub (ev_dat m15) (ev_dat m8) (sub_list (by lia) (by lia) (hdi _ h1))) (ev_list (md := .fresh) evl_nil) (cmp_neD 1 (hd6 _ mem) (by rfl) ?_)) fun _ => allT_and (ts_cmp (ev_sub (ev_dat m6) (ev_dat m9) (sub_list (by lia) (by lia) (nm _ h2))) (ev_sub (ev_dat m15) (ev_dat m8) (sub_list (by lia) (by lia) (hdi _ h1))) cmp_notInS) fun _ => allT_nil)) (fun h => ?_) (fun h => ?_)) fun _ e => ex_nil e
  ·cases dl.getD p.1 [] <;> simp [dStrs]
  ·refine ex_seq (es_add (ev_sub (ev_dat m6) (ev_dat m8) (sub_list (by lia) (by lia) (nm _ h1))) (ev_sub (ev_dat m6) (ev_dat m9) (sub_list (by lia) (by lia) (nm _ h2))) (n6 _ h1) (n6 _ h2) m17 u17 (by show (List.map _ _).length ≤ _; rw [List.length_map]; lia)) (ex_nil ?_)
   rw [ht, if_pos h]
   exact .keep (.keep (.keep (.keep (.keep (.keep (.keep (.keep (.hide (.hide (.keep (.keep (.keep (.keep (.keep (.keep (.keep (.keep .nil)))))))))))))))))
  ·refine ex_nil ?_
   rw [ht, if_neg (by rw [h]; decide)]
   exact .keep (.keep (.keep (.keep (.keep (.keep (.keep (.keep (.hide (.hide (.keep (.keep (.keep (.keep (.keep (.keep (.keep (.keep .nil)))))))))))))))))
 ·show ρs _ _ (sec ((waysL xs).take ((waysL xs).map dPair).length)) = _
  rw [List.length_map, List.take_length]; rfl
 have hs6 : ∀ p ∈ secL xs dl, p.1 ∈ names6 ∧ p.2 ∈ names6 := fun p hp => by
  unfold secL at hp
  obtain ⟨q, hq, rfl⟩ := List.mem_map.mp hp
  have := L.w6 q (List.mem_filter.mp hq).1
  exact ⟨n6 _ this.1, n6 _ this.2⟩
 have hsl' : (secL xs dl).length ≤ 1000 := by
  unfold secL; rw [List.length_map]; exact Nat.le_trans (List.length_filter_le _ _) hwl'
 refine fun A c s Q E Rm S q z => ?_
 obtain ⟨v, lk, ⟨a, i, ev, na, ni, hh⟩, ⟨mm, mF⟩, vs, p, al⟩ := S.vals _ _ (m17 : (sz "second", .own true ((secL xs dl).map dStep)) ∈ ρs .hid .hid (secL xs dl))
 subst ev
 have gv : isVar (sc (st 85)) (sz "second") = true := by kernel_rfl
 obtain ⟨g1, g2, g3⟩ := isVar.kind S gv
 obtain ⟨b, hb⟩ : ∃ b, b = c.ad (sz "second") := ⟨_, rfl⟩
 rw [← hb] at mm p hh
 have bT : b ≠ TF := (S.mutO _ mm).1
 have hb0 : (H1 w.params).get? b = none := by
  rcases (S.mutO _ mm).2.2 with e | e
  ·cases h : (H1 w.params).get? b with
   | none => rfl
   | some o => exact no e (S.base₀.get b o bT (fun z => z) h)
  ·exact (S.hM b e).1
 refine wpAny_execs_cons (wpAny_Return_some (wpAny_Compare1 (wpAny_Call_Name_kw (evv_glob (v := .ref 375) (by kernel_rfl) (by kernel_rfl) A c s _ _ Rm S ?_)) (by with_unfolding_all rfl)))
 obtain ⟨ob, ho, hdd⟩ := (F_emptied w).obj
 refine callWith_fn1 (ob := ob) (fd := fdO o375) rfl (look S g1 lk ⟨⟨S.base.get _ _ (F_emptied w).ne (fun z => z) ho, hdd⟩, ?_⟩ g2 g3)
 refine emptied_call (k := k + 2) Rm S.base na.1 ni.1 bT hb0 hh p (al.weak fun _ n => n.1) hsl' hs6 hemp fun s₁ sh kx tk ⟨us', pl⟩ => ?_
 obtain ⟨h₁, t₁, e₁⟩ := sh
 have W : Weak (ρs .hid .hid (secL xs dl)) (rhoW (.dat false (.lst (script.map .int))) (.dat true (.lst ((numsOf script).map .int))) .hid (.dat true (dStrs (psOf xs))) (.dat true (dStrs (rowOf xs))) (.dat true (.lst ((stepsL xs).map dStep))) (.dat true (dStrs names6)) (.dat true (dWays (waysL xs))) .hid .hid (.own true ((tabL xs).map dStep)) .hid .hid (.dat true (dNss (aheadL xs))) (.dat true (dNss (chainsL xs F))) (.dat true (dRows dl)) (.dat false (.int (begN xs))) .hid) :=
  .keep (.keep (.keep (.keep (.keep (.keep (.keep (.keep (.keep (.keep (.keep (.keep (.keep (.keep (.keep (.keep (.keep (.hide .nil)))))))))))))))))
 have S₁ := (S.weak W).putZ mm p (fun y sh ds q e => by
  have q' : (y, LV.own sh ds) ∈ ρs .hid .hid (secL xs dl) := by
   rcases W.mem q with q | q
   ·exact q
   ·cases q
  have := S.own _ _ _ _ _ _ q' (m17 : (sz "second", .own true ((secL xs dl).map dStep)) ∈ ρs .hid .hid (secL xs dl)) (e.trans hb)
  subst this
  have hn := S.nodup
  have e1 : LV.own sh ds = .hid := by
   have h1 := lookup_of_mem ((S.weak W).nodup) q
   have h2 := lookup_of_mem ((S.weak W).nodup) (m17 : (sz "second", LV.hid) ∈ rhoW (.dat false (.lst (script.map .int))) (.dat true (.lst ((numsOf script).map .int))) .hid (.dat true (dStrs (psOf xs))) (.dat true (dStrs (rowOf xs))) (.dat true (.lst ((stepsL xs).map dStep))) (.dat true (dStrs names6)) (.dat true (dWays (waysL xs))) .hid .hid (.own true ((tabL xs).map dStep)) .hid .hid (.dat true (dNss (aheadL xs))) (.dat true (dNss (chainsL xs F))) (.dat true (dRows dl)) (.dat false (.int (begN xs))) .hid)
   rw [h1] at h2; exact Option.some.inj h2
  cases e1) kx tk pl
 have X₁ : Ext c s c s₁ := ⟨rfl, rfl, rfl, rfl, rfl, rfl, fun _ q => q, fun _ q => .inl q, kx.mono fun z _ e => e ▸ mm, h₁, t₁, e₁⟩
 refine (ev_call evv_glob (F_shrinks w) (evl_cons (ev_dat m7) (evl_cons (ev_dat m16) evl_nil)) (shrinks_ok w (k + 3) (waysL xs) (begN xs) L.w6 hb6 hwl' L.shk L.shI)) A c s₁ _ _ Rm S₁ fun v₂ s₂ z₂ a₂ => ?_
 rw [hshr] at a₂
 refine a₂.cB ?_
 refine eq_bool ?_
 rw [beq_self_eq_true]
 exact z c s₂ _ _ (.bool true) (X₁.trans (.kps z₂)) (S₁.kps z₂) (.bool true) rfl
section
variable {ways : List (Nat × Nat)} {b : Nat}
theorem mem_left0 {got : List Nat} {p : Nat × Nat} : p ∈ left0 ways got ↔ p ∈ ways ∧ p.1 ∈ got ∧ p.1 ≠ p.2 := by
 unfold left0
 rw [List.mem_filter]
 simp only [Bool.and_eq_true, bne_iff_ne, ne_eq, List.contains_iff_mem]
 constructor
 ·rintro ⟨h1, h2, h3, _⟩; exact ⟨h1, h2, by lia⟩
 ·rintro ⟨h1, h2, h3⟩; exact ⟨h1, h2, by lia, rfl⟩
theorem mem_live0 {got : List Nat} {x : Nat} : x ∈ live0 got b ↔ x ∈ got ∧ x ≠ b := by
 unfold live0
 rw [List.mem_filter]
 simp only [bne_iff_ne, ne_eq]
 constructor
 ·rintro ⟨h1, h2⟩; exact ⟨h1, by lia⟩
 ·rintro ⟨h1, h2⟩; exact ⟨h1, by lia⟩
theorem reach0 (hw : ∀ p ∈ ways, p.1 < 6 ∧ p.2 < 6) (hb : b < 6) {wo : Int} {z : Nat} : Reach (left0 ways (reachF ways b (-1))) wo b z ↔ Reach ways wo b z := by
 constructor
 ·intro h
  induction h with
  | base n => exact .base n
  | step _ m n ih => exact .step ih (mem_left0.mp m).1 n
 ·intro h
  induction h with
  | base n => exact .base n
  | @step x y r m n ih =>
   by_cases e : x = y
   ·rw [← e]; exact ih
   ·exact .step ih (mem_left0.mpr ⟨m, (reachF_iff hw hb x).mpr r.free, e⟩) n
theorem dm0 (hw : ∀ p ∈ ways, p.1 < 6 ∧ p.2 < 6) (hb : b < 6) {x y : Nat} : Dm (left0 ways (reachF ways b (-1))) b x y ↔ Dm ways b x y := by
 unfold Dm; rw [reach0 hw hb]
theorem graph0 (hw : ∀ p ∈ ways, p.1 < 6 ∧ p.2 < 6) (hb : b < 6) (hl : ways.length ≤ 1000) : GraphOK b (left0 ways (reachF ways b (-1))) (live0 (reachF ways b (-1)) b) where
 loop := fun p m => (mem_left0.mp m).2.2
 nb := fun h => (mem_live0.mp h).2 rfl
 reach := fun x h => (reach0 hw hb).mpr ((reachF_iff hw hb x).mp (mem_live0.mp h).1)
 fst := fun p m => by
  by_cases e : p.1 = b
  ·exact .inr e
  ·exact .inl (mem_live0.mpr ⟨(mem_left0.mp m).2.1, e⟩)
 snd := fun p m => by
  obtain ⟨h1, h2, h3⟩ := mem_left0.mp m
  by_cases e : p.2 = b
  ·exact .inr e
  ·exact .inl (mem_live0.mpr ⟨(reachF_iff hw hb _).mpr (.step ((reachF_iff hw hb _).mp h2) h1 (by lia)), e⟩)
 len := by unfold left0; exact Nat.le_trans (List.length_filter_le _ _) hl
 vlen := by
  have := (reachF_ok hw hb (-1)).len
  unfold live0
  exact Nat.le_trans (List.length_filter_le _ _) (by lia)
noncomputable def Fwd (ways : List (Nat × Nat)) (b : Nat) : Prop := ∃ ord : Nat → Nat, ∀ p ∈ ways, Reach ways (-1) b p.1 → ¬ Dm ways b p.1 p.2 → ord p.1 < ord p.2
theorem shrink_fwd (hw : ∀ p ∈ ways, p.1 < 6 ∧ p.2 < 6) (hb : b < 6) (hl : ways.length ≤ 1000) : shrink (live0 (reachF ways b (-1)) b).length (left0 ways (reachF ways b (-1))) (live0 (reachF ways b (-1)) b) = true ↔ Fwd ways b := by
 rw [shrink_red _ _ _ (Nat.le_refl _) (graph0 hw hb hl)]
 constructor
 ·rintro ⟨ord, h⟩
  refine ⟨ord, fun p m r n => h p.1 p.2 (mem_left0.mpr ⟨m, (reachF_iff hw hb _).mpr r, ?_⟩) fun d => n ((dm0 hw hb).mp d)⟩
  intro e
  rw [e] at n
  exact n Dm.self
 ·rintro ⟨ord, h⟩
  refine ⟨ord, fun x y m n => ?_⟩
  obtain ⟨h1, h2, _⟩ := mem_left0.mp m
  exact h (x, y) h1 ((reachF_iff hw hb _).mp h2) fun d => n ((dm0 hw hb).mpr d)
theorem name_inj : ∀ i, i < 6 → ∀ j, j < 6 → nameAt i = nameAt j → i = j := by decide +kernel
theorem name_mem {i : Nat} (h : i < 6) : nameAt i ∈ names6 := by
 unfold nameAt
 rw [List.getD_eq_getElem?_getD, List.getElem?_eq_getElem (show i < names6.length from h)]
 exact List.getElem_mem _
theorem mem_domOf {v : Nat} {x : Str} (hw : ∀ p ∈ ways, p.1 < 6 ∧ p.2 < 6) (hb : b < 6) : x ∈ domOf names6 ways b v ↔ ∃ d, d < 6 ∧ x = nameAt d ∧ Dm ways b v d := by
 unfold domOf
 rw [List.mem_filterMap]
 constructor
 ·rintro ⟨d, hd, e⟩
  split at e
  ·rename_i h
   refine ⟨d, List.mem_range.mp hd, (Option.some.inj e).symm, fun r => ?_⟩
   have := (reach_contains hw hb v).mpr r
   rw [this] at h; cases h
  ·cases e
 ·rintro ⟨d, hd, rfl, h⟩
  refine ⟨d, List.mem_range.mpr hd, if_pos ?_⟩
  cases e : (reachF ways b (d : Int)).contains v with
  | false => rfl
  | true => exact absurd ((reach_contains hw hb v).mp e) h
theorem mem_dueAt {v : Nat} {x : Str} (hw : ∀ p ∈ ways, p.1 < 6 ∧ p.2 < 6) (hb : b < 6) : x ∈ dueAt names6 ways b v ↔ Reach ways (-1) b v ∧ ∃ d, d < 6 ∧ x = nameAt d ∧ Dm ways b v d := by
 unfold dueAt
 by_cases h : (reachF ways b (-1)).contains v = true
 ·rw [if_pos h]
  unfold sortS
  rw [List.mem_mergeSort, mem_domOf hw hb]
  exact ⟨fun q => ⟨(reach_contains hw hb v).mp h, q⟩, fun q => q.2⟩
 ·rw [if_neg h]
  exact ⟨(fun q => by cases q), fun q => absurd ((reach_contains hw hb v).mpr q.1) h⟩
theorem dueF_get {v : Nat} (hv : v < 6) : (dueF names6 ways b).getD v [] = dueAt names6 ways b v := by
 unfold dueF
 rw [List.getD_eq_getElem?_getD, List.getElem?_map, List.getElem?_range (show v < names6.length from hv)]
 rfl
theorem keepW_iff (hw : ∀ p ∈ ways, p.1 < 6 ∧ p.2 < 6) (hb : b < 6) {p : Nat × Nat} (hp : p.1 < 6 ∧ p.2 < 6) : keepW (dueF names6 ways b) p = true ↔ Reach ways (-1) b p.1 ∧ ¬ Dm ways b p.1 p.2 := by
 unfold keepW
 rw [dueF_get hp.1]
 simp only [Bool.and_eq_true, bne_iff_ne, ne_eq, Bool.not_eq_true']
 constructor
 ·rintro ⟨h1, h2, _⟩
  have : ∃ x, x ∈ dueAt names6 ways b p.1 := by
   cases h : dueAt names6 ways b p.1 with
   | nil => exact absurd h h1
   | cons x xs => exact ⟨x, .head _⟩
  obtain ⟨x, hx⟩ := this
  have r := ((mem_dueAt hw hb).mp hx).1
  refine ⟨r, fun d => ?_⟩
  have : nameAt p.2 ∈ dueAt names6 ways b p.1 := (mem_dueAt hw hb).mpr ⟨r, p.2, hp.2, rfl, d⟩
  rw [List.contains_iff_mem.mpr this] at h2; cases h2
 ·rintro ⟨r, n⟩
  refine ⟨fun e => ?_, ?_, rfl⟩
  ·have : nameAt p.1 ∈ dueAt names6 ways b p.1 := (mem_dueAt hw hb).mpr ⟨r, p.1, hp.1, rfl, Dm.self⟩
   rw [e] at this; cases this
  ·cases e : (dueAt names6 ways b p.1).contains (nameAt p.2) with
   | false => rfl
   | true =>
    obtain ⟨_, d, hd, e', dm⟩ := (mem_dueAt hw hb).mp (List.contains_iff_mem.mp e)
    have := name_inj _ hp.2 _ hd e'
    subst this
    exact absurd dm n
theorem idx_name : ∀ i, i < 6 → names6.idxOf (nameAt i) = i := by decide +kernel
theorem rises_fwd (hw : ∀ p ∈ ways, p.1 < 6 ∧ p.2 < 6) (hb : b < 6) : Rises ((ways.filter (keepW (dueF names6 ways b))).map fun p => (nameAt p.1, nameAt p.2)) ↔ Fwd ways b := by
 constructor
 ·rintro ⟨ord, h⟩
  refine ⟨fun i => ord (nameAt i), fun p m r n => ?_⟩
  exact h (nameAt p.1, nameAt p.2) (List.mem_map.mpr ⟨p, List.mem_filter.mpr ⟨m, (keepW_iff hw hb (hw p m)).mpr ⟨r, n⟩⟩, rfl⟩)
 ·rintro ⟨ord, h⟩
  refine ⟨fun x => ord (names6.idxOf x), fun q hq => ?_⟩
  obtain ⟨p, hp, rfl⟩ := List.mem_map.mp hq
  obtain ⟨m, k⟩ := List.mem_filter.mp hp
  obtain ⟨r, n⟩ := (keepW_iff hw hb (hw p m)).mp k
  show ord (names6.idxOf (nameAt p.1)) < ord (names6.idxOf (nameAt p.2))
  rw [idx_name _ (hw p m).1, idx_name _ (hw p m).2]
  exact h p m r n
theorem emp_shrink (hw : ∀ p ∈ ways, p.1 < 6 ∧ p.2 < 6) (hb : b < 6) (hl : ways.length ≤ 1000) : Emp ((ways.filter (keepW (dueF names6 ways b))).map fun p => (nameAt p.1, nameAt p.2)) (shrink (live0 (reachF ways b (-1)) b).length (left0 ways (reachF ways b (-1))) (live0 (reachF ways b (-1)) b)) := by
 obtain ⟨r, hr⟩ := emp_some _ ((ways.filter (keepW (dueF names6 ways b))).map fun p => (nameAt p.1, nameAt p.2)) (Nat.le_refl _)
 have h1 := (emp_rises hr).trans (rises_fwd hw hb)
 have h2 := shrink_fwd hw hb hl
 have : r = shrink (live0 (reachF ways b (-1)) b).length (left0 ways (reachF ways b (-1))) (live0 (reachF ways b (-1)) b) := Bool.eq_iff_iff.mpr (h1.trans h2.symm)
 exact this ▸ hr
end
section
open PySem.Builtin.Str PyProof
noncomputable abbrev ofL (l : List Nat) : Str := ⟨l.toArray⟩
theorem idx_clip (p s n : Nat) : strSliceIndices (some (p : Int)) (some ((p : Int) + (s : Int))) 1 n = strSliceIndices (some (p : Int)) (some (((min (p + s) n : Nat)) : Int)) 1 n := by
 unfold strSliceIndices
 have h1 : ¬ ((p : Int) + (s : Int) < 0) := by lia
 have h2 : ¬ (((min (p + s) n : Nat) : Int) < 0) := by lia
 simp only [h1, h2, if_false, show (1 : Int) > 0 by decide, if_true]
 congr 1
 lia
theorem cutZ_eq (x : Str) (p s : Nat) (hp : p ≤ x.length) : cutZ x p s = ofL ((x.cps.toList.drop p).take s) := by
 have e : cutZ x p s = Txt.slice x (some (p : Int)) (some (((min (p + s) x.length : Nat)) : Int)) := by
  unfold cutZ Txt.slice
  rw [idx_clip]
 rw [e]
 have hl : x.cps.toList.length = x.length := by rw [Array.length_toList]; rfl
 have := eq_of_beq (slice_closes (x := x) (i := (p : Int)) (j := ((min (p + s) x.length : Nat) : Int)) ⟨by lia, by lia, by rw [hl]; lia⟩)
 rw [this]
 congr 2
 rw [Int.toNat_natCast]
 have h2 : (((min (p + s) x.length : Nat) : Int) - (p : Int)).toNat = min s (x.length - p) := by lia
 rw [h2, List.take_eq_take_iff, List.length_drop, hl]
 lia
noncomputable def isLt (c : Nat) : Bool := c == 102 || c == 105 || c == 108
theorem sign_noLt : signL.all (fun e => e.1.cps.toList.all fun c => !isLt c) = true := by decide +kernel
theorem isSign_lt {l : List Nat} {c : Nat} (h : c ∈ l) (hc : isLt c = true) : isSign (ofL l) = false := by
 cases e : isSign (ofL l) with
 | false => rfl
 | true =>
  exfalso
  unfold isSign sign? at e
  obtain ⟨i, hi⟩ := Option.isSome_iff_exists.mp e
  have := List.all_eq_true.mp sign_noLt _ (lookup_mem' hi)
  have := List.all_eq_true.mp this c h
  rw [hc] at this; cases this
noncomputable def downL (l : List Nat) : Nat → Nat
 | 0 => 0
 | s + 1 => if decide (s ≥ 1) && !isSign (ofL (l.take (s + 1))) then downL l s else s + 1
noncomputable def growL (l : List Nat) : Nat → Nat → Nat
 | 0, s => s
 | f + 1, s => if decide (s < l.length) && !isSign (chOf ((l[s]?).getD 0)) then growL l f (s + 1) else s
noncomputable def sizeL (l : List Nat) (f : Nat) : Nat := if isSign (ofL (l.take (downL l 3))) then downL l 3 else growL l f (downL l 3)
section
variable {x : Str} {p : Nat}
theorem len_eq (x : Str) : x.cps.toList.length = x.length := by rw [Array.length_toList]; rfl
theorem down_eq (hp : p ≤ x.length) : ∀ s, down x p s = downL (x.cps.toList.drop p) s
 | 0 => rfl
 | s + 1 => by rw [down, downL, cutZ_eq x p _ hp, down_eq hp s]
theorem grow_eq (hp : p ≤ x.length) : ∀ f s, grow x p f s = growL (x.cps.toList.drop p) f s
 | 0, s => rfl
 | f + 1, s => by
  rw [grow, growL, grow_eq hp f (s + 1)]
  have h1 : decide (p + s < x.length) = decide (s < (x.cps.toList.drop p).length) := by
   rw [List.length_drop, len_eq]
   by_cases h : p + s < x.length
   ·rw [decide_eq_true h, decide_eq_true (by lia)]
   ·rw [decide_eq_false h, decide_eq_false (by lia)]
  have h2 : chAt x (p + s) = chOf (((x.cps.toList.drop p)[s]?).getD 0) := by
   unfold chAt; rw [List.getElem?_drop]
  rw [h1, h2]
theorem size_eq (hp : p ≤ x.length) : sizeAt x p = sizeL (x.cps.toList.drop p) x.length := by
 unfold sizeAt sizeL
 rw [down_eq hp, cutZ_eq x p _ hp, grow_eq hp]
end
inductive Toks : List (List Nat) → Prop
 | nil : Toks []
 | name {t : List Nat} {ts : List (List Nat)} : t ≠ [] → (∀ c ∈ t, isLt c = true) → Toks ts → (∀ c, ts.flatten.head? = some c → isSign (chOf c) = true) → Toks (t :: ts)
 | two {a b : Nat} {ts : List (List Nat)} : isSign (ofL [a, b]) = true → Toks ts → (∃ c r, ts.flatten = c :: r ∧ isLt c = true) → Toks ([a, b] :: ts)
 | one {a : Nat} {ts : List (List Nat)} : isSign (ofL [a]) = true → Toks ts → (∃ c r, ts.flatten = c :: r ∧ isLt c = true) → Toks ([a] :: ts)
theorem growL_name {t r : List Nat} (ht : ∀ c ∈ t, isLt c = true) (hr : ∀ c, r.head? = some c → isSign (chOf c) = true) : ∀ f s, s ≤ t.length → t.length < s + f → growL (t ++ r) f s = t.length
 | 0, s, h1, h2 => by lia
 | f + 1, s, h1, h2 => by
  rw [growL]
  rcases Nat.lt_or_eq_of_le h1 with h | h
  ·have e : (t ++ r)[s]? = some t[s] := by rw [List.getElem?_append_left h, List.getElem?_eq_getElem h]
   rw [e, if_pos]
   ·exact growL_name ht hr f (s + 1) (by lia) (by lia)
   ·have : isSign (chOf ((some t[s]).getD 0)) = false := isSign_lt (l := [t[s]]) (.head _) (ht _ (List.getElem_mem h))
    rw [this, decide_eq_true (by rw [List.length_append]; lia)]; rfl
  ·rw [h, if_neg]
   cases r with
   | nil => simp
   | cons c r =>
    have : (t ++ c :: r)[t.length]? = some c := by rw [List.getElem?_append_right (Nat.le_refl _), Nat.sub_self]; rfl
    rw [this, show isSign (chOf ((some c).getD 0)) = true from hr c rfl]
    simp
theorem sizeL_tok {t : List Nat} {ts : List (List Nat)} (h : Toks (t :: ts)) {f : Nat} (hf : t.length ≤ f) : sizeL (t ++ ts.flatten) f = t.length := by
 cases h with
 | name h1 h2 h3 h4 =>
  cases t with
  | nil => exact absurd rfl h1
  | cons c t =>
   have hs : ∀ n, isSign (ofL ((c :: t ++ ts.flatten).take (n + 1))) = false := fun n => isSign_lt (c := c) (by rw [List.cons_append, List.take_succ_cons]; exact .head _) (h2 c (.head _))
   have hd : downL (c :: t ++ ts.flatten) 3 = 1 := by
    rw [downL, hs 2, downL, hs 1, downL]; rfl
   unfold sizeL
   rw [hd, hs 0, if_neg (by decide)]
   exact growL_name h2 h4 f 1 (by simp) (by lia)
 | @two a b _ h1 h3 h4 =>
  obtain ⟨c, r, e, hc⟩ := h4
  rw [e]
  have h3 : isSign (ofL (([a, b] ++ c :: r).take 3)) = false := isSign_lt (c := c) (by simp) hc
  have h2 : isSign (ofL (([a, b] ++ c :: r).take 2)) = true := h1
  have hd : downL ([a, b] ++ c :: r) 3 = 2 := by
   rw [downL, h3, downL, h2]; rfl
  unfold sizeL
  rw [hd, h2, if_pos rfl]; rfl
 | @one a _ h1 h3 h4 =>
  obtain ⟨c, r, e, hc⟩ := h4
  rw [e]
  have h3 : isSign (ofL (([a] ++ c :: r).take 3)) = false := isSign_lt (c := c) (by simp) hc
  have h2 : isSign (ofL (([a] ++ c :: r).take 2)) = false := isSign_lt (c := c) (by simp) hc
  have h1 : isSign (ofL (([a] ++ c :: r).take 1)) = true := h1
  have hd : downL ([a] ++ c :: r) 3 = 1 := by
   rw [downL, h3, downL, h2, downL]; rfl
  unfold sizeL
  rw [hd, h1, if_pos rfl]; rfl
theorem Toks.ne {t : List Nat} {ts : List (List Nat)} (h : Toks (t :: ts)) : t ≠ [] ∧ Toks ts := by
 cases h with
 | name h1 _ h3 _ => exact ⟨h1, h3⟩
 | two _ h3 _ => exact ⟨by simp, h3⟩
 | one _ h3 _ => exact ⟨by simp, h3⟩
theorem cutAll_toks (x : Str) : ∀ (ts : List (List Nat)) f p, Toks ts → p ≤ x.length → x.cps.toList.drop p = ts.flatten → x.length ≤ p + f → cutAll x f p = ts.map ofL
 | [], f, p, _, hp, e, hf => by
  have : p = x.length := by
   have := congrArg List.length e
   rw [List.length_drop, len_eq] at this
   simp at this; lia
  cases f with
  | zero => rfl
  | succ f => rw [cutAll, if_neg (by lia)]; rfl
 | t :: ts, f, p, h, hp, e, hf => by
  obtain ⟨ne, h'⟩ := h.ne
  have hl := congrArg List.length e
  rw [List.length_drop, len_eq, List.flatten_cons, List.length_append] at hl
  have htp : 0 < t.length := List.length_pos_iff.mpr ne
  cases f with
  | zero => lia
  | succ f =>
   have hsz : sizeAt x p = t.length := by
    rw [size_eq hp, e, List.flatten_cons]; exact sizeL_tok h (by lia)
   rw [cutAll, if_pos (by lia), hsz, cutZ_eq x p _ hp, e, List.flatten_cons, List.take_left]
   rw [cutAll_toks x ts f (p + t.length) h' (by lia) (by rw [← List.drop_drop, e, List.flatten_cons, List.drop_left]) (by lia)]
   rfl
theorem pieces_toks {x : Str} {ts : List (List Nat)} (h : Toks ts) (e : x.cps.toList = ts.flatten) : piecesF x = ts.map ofL :=
 cutAll_toks x ts x.length 0 h (Nat.zero_le _) (by rw [List.drop_zero]; exact e) (by lia)
end
section
open PySem.Builtin.Str PyProof
noncomputable def pre1 (n : Nat) : List Nat := (prepOne n).cps.toList
theorem app_cps (a b : Str) : (a ++ b).cps.toList = a.cps.toList ++ b.cps.toList := by
 show (a.cps ++ b.cps).toList = _
 rw [Array.toList_append]
theorem prepF_cps (l : List Nat) : (prepF l).cps.toList = l.flatMap pre1 := by
 have : ∀ (l : List Nat) (out : Str), (l.foldl prepS out).cps.toList = out.cps.toList ++ l.flatMap pre1 := by
  intro l
  induction l with
  | nil => intro out; simp
  | cons n l ih =>
   intro out
   rw [List.foldl_cons, ih, List.flatMap_cons, ← List.append_assoc]
   congr 1
   unfold prepS pre1 prepOne
   split
   ·simp
   ·exact app_cps _ _
 rw [prepF, this]
 rfl
noncomputable def nmL (i : Nat) : List Nat := (nameAt i).cps.toList
noncomputable def mkL (m : Nat) : List Nat := (markL.getD m ⟨#[]⟩).cps.toList
theorem spelt_pre : ∀ i, i < 6 → ∀ j, j < 3 → (spelt i j).cps.toList.flatMap pre1 = nmL i := by decide +kernel
theorem mark_pre : ∀ m, m < 4 → (Txt.slice (markL.getD m ⟨#[]⟩) none (some 1)).cps.toList.flatMap pre1 ++ (Txt.slice (markL.getD m ⟨#[]⟩) (some 1) none).cps.toList.flatMap pre1 = mkL m := by decide +kernel
theorem un_pre : ∀ u, u < 3 → (unL.getD u ⟨#[]⟩).cps.toList.flatMap pre1 = [] := by decide +kernel
theorem semi_pre : (sz ";").cps.toList.flatMap pre1 = [59] := by decide +kernel
noncomputable def tokR (x : Nat) : List (List Nat) := [nmL (leftOf x), mkL (x % 4), nmL (rightOf x)]
theorem written_pre (x : Nat) : (written x).cps.toList.flatMap pre1 = (tokR x).flatten := by
 have h1 := spelt_pre (leftOf x) (by unfold leftOf; lia) (x / 144 % 3) (by lia)
 have h2 := spelt_pre (rightOf x) (by unfold rightOf; lia) (x / 432 % 3) (by lia)
 have h3 := mark_pre (x % 4) (by lia)
 have h4 := un_pre (x / 1296 % 3) (by lia)
 unfold written markOf
 simp only [app_cps, List.flatMap_append]
 rw [h1, h2, h4]
 show _ = nmL (leftOf x) ++ (mkL (x % 4) ++ (nmL (rightOf x) ++ []))
 rw [← h3]
 simp
noncomputable def toksX : List Nat → List (List Nat)
 | [] => []
 | [x] => tokR x
 | x :: y :: xs => tokR x ++ [59] :: toksX (y :: xs)
theorem text_pre : ∀ xs : List Nat, (Str.join (sz ";") (xs.map written)).cps.toList.flatMap pre1 = (toksX xs).flatten
 | [] => rfl
 | [x] => written_pre x
 | x :: y :: xs => by
  show (written x ++ sz ";" ++ Str.join (sz ";") ((y :: xs).map written)).cps.toList.flatMap pre1 = _
  rw [app_cps, app_cps, List.flatMap_append, List.flatMap_append, text_pre (y :: xs), written_pre, semi_pre, toksX, List.flatten_append, List.flatten_cons, List.append_assoc]
theorem prep_text (xs : List Nat) : (prepF (textOf xs).cps.toList).cps.toList = (toksX xs).flatten := by
 rw [prepF_cps, textOf, show Txt.join (sz ";") (xs.map written) = Str.join (sz ";") (xs.map written) from StrLaws.glued_eq_join _ _, text_pre]
theorem nm_ok : ∀ i, i < 6 → (nmL i).all isLt = true ∧ nmL i ≠ [] := by decide +kernel
theorem mk_ok : ∀ m, m < 4 → ∃ a b, mkL m = [a, b] ∧ isSign (ofL [a, b]) = true ∧ isSign (chOf a) = true := fun m hm => by
 have : m = 0 ∨ m = 1 ∨ m = 2 ∨ m = 3 := by lia
 rcases this with rfl | rfl | rfl | rfl
 ·exact ⟨45, 62, rfl, by decide +kernel, by decide +kernel⟩
 ·exact ⟨62, 62, rfl, by decide +kernel, by decide +kernel⟩
 ·exact ⟨60, 60, rfl, by decide +kernel, by decide +kernel⟩
 ·exact ⟨61, 61, rfl, by decide +kernel, by decide +kernel⟩
theorem semi_ok : isSign (ofL [59]) = true := by decide +kernel
theorem nm_head {i : Nat} (hi : i < 6) (r : List Nat) : ∃ c r', nmL i ++ r = c :: r' ∧ isLt c = true := by
 obtain ⟨h1, h2⟩ := nm_ok i hi
 cases e : nmL i with
 | nil => exact absurd e h2
 | cons c t =>
  rw [e] at h1
  exact ⟨c, t ++ r, rfl, List.all_eq_true.mp h1 c (.head _)⟩
theorem toks_rec {x : Nat} {ts : List (List Nat)} (h : Toks ts) (hs : ∀ c, ts.flatten.head? = some c → isSign (chOf c) = true) : Toks (tokR x ++ ts) := by
 have hl : leftOf x < 6 := by unfold leftOf; lia
 have hr : rightOf x < 6 := by unfold rightOf; lia
 obtain ⟨h1, h2⟩ := nm_ok _ hl
 obtain ⟨h3, h4⟩ := nm_ok _ hr
 obtain ⟨a, b, e, s1, s2⟩ := mk_ok (x % 4) (by lia)
 have T3 : Toks (nmL (rightOf x) :: ts) := .name h4 (fun c hc => List.all_eq_true.mp h3 c hc) h hs
 have T2 : Toks (mkL (x % 4) :: nmL (rightOf x) :: ts) := by
  rw [e]; exact .two s1 T3 (by rw [List.flatten_cons]; exact nm_head hr _)
 refine .name h2 (fun c hc => List.all_eq_true.mp h1 c hc) T2 fun c hc => ?_
 have hc : (mkL (x % 4) ++ (nmL (rightOf x) ++ ts.flatten)).head? = some c := hc
 rw [e] at hc
 cases hc
 exact s2
theorem toks_ok : ∀ xs, Toks (toksX xs)
 | [] => .nil
 | [x] => by
  have := toks_rec (x := x) .nil (fun c h => by cases h)
  rwa [List.append_nil] at this
 | x :: y :: xs => by
  refine toks_rec (.one semi_ok (toks_ok (y :: xs)) ?_) fun c h => ?_
  ·cases xs with
   | nil => show ∃ c r, (tokR y).flatten = c :: r ∧ _; exact nm_head (by unfold leftOf; lia) _
   | cons z zs => show ∃ c r, (tokR y ++ [59] :: toksX (z :: zs)).flatten = c :: r ∧ _; exact nm_head (by unfold leftOf; lia) _
  ·cases h
   exact semi_ok
theorem psOf_eq (xs : List Nat) : psOf xs = (toksX xs).map ofL := pieces_toks (toks_ok xs) (prep_text xs)
end
section
open PySem.Builtin.Str PyProof
theorem app_len (a b : Str) : (a ++ b).length = a.length + b.length := by
 show (a.cps ++ b.cps).size = _
 rw [Array.size_append]; rfl
theorem spelt_len : ∀ i, i < 6 → ∀ j, j < 3 → (spelt i j).length ≤ 3 := by decide +kernel
theorem mark_len : ∀ m, m < 4 → (markL.getD m ⟨#[]⟩).length ≤ 2 := by decide +kernel
theorem un_len : ∀ u, u < 3 → (unL.getD u ⟨#[]⟩).length ≤ 1 := by decide +kernel
theorem written_len (x : Nat) : (written x).length ≤ 11 := by
 have h1 := spelt_len (leftOf x) (by unfold leftOf; lia) (x / 144 % 3) (by lia)
 have h2 := spelt_len (rightOf x) (by unfold rightOf; lia) (x / 432 % 3) (by lia)
 have h3 := mark_len (x % 4) (by lia)
 have h4 := un_len (x / 1296 % 3) (by lia)
 have h5 := Txt.slice_le (markL.getD (x % 4) ⟨#[]⟩) none (some 1)
 have h6 := Txt.slice_le (markL.getD (x % 4) ⟨#[]⟩) (some 1) none
 unfold written markOf
 rw [app_len, app_len, app_len, app_len]
 lia
theorem sum_len : ∀ xs : List Nat, ((xs.map written).map (·.length)).sum ≤ 11 * xs.length
 | [] => Nat.le_refl _
 | x :: xs => by
  have := sum_len xs
  have := written_len x
  simp only [List.map_cons, List.sum_cons, List.length_cons]
  lia
theorem join_ok {xs : List Nat} (h : xs.length = 7) : JoinOk (sz ";") (xs.map written) = true := by
 refine joinOk_of ?_
 have := sum_len xs
 rw [List.length_map, h, show (sz ";").length = 1 from rfl]
 lia
theorem text_len {xs : List Nat} (h : xs.length = 7) : (textOf xs).length ≤ 1000 := by
 unfold textOf
 rw [show Txt.join (sz ";") (xs.map written) = glued (sz ";") (xs.map written) from rfl, size_glued]
 have := sum_len xs
 rw [List.length_map, h, show (sz ";").length = 1 from rfl]
 lia
theorem nm_len : ∀ i, i < 6 → (nmL i).length ≤ 3 := by decide +kernel
theorem mk_len : ∀ m, m < 4 → (mkL m).length ≤ 2 := by decide +kernel
theorem toksX_len : ∀ xs, (toksX xs).length ≤ 4 * xs.length ∧ (toksX xs).flatten.length ≤ 9 * xs.length
 | [] => ⟨Nat.le_refl _, Nat.le_refl _⟩
 | [x] => by
  have h1 := nm_len (leftOf x) (by unfold leftOf; lia)
  have h2 := nm_len (rightOf x) (by unfold rightOf; lia)
  have h3 := mk_len (x % 4) (by lia)
  refine ⟨by simp [toksX, tokR], ?_⟩
  simp [toksX, tokR]; lia
 | x :: y :: xs => by
  obtain ⟨i1, i2⟩ := toksX_len (y :: xs)
  have h1 := nm_len (leftOf x) (by unfold leftOf; lia)
  have h2 := nm_len (rightOf x) (by unfold rightOf; lia)
  have h3 := mk_len (x % 4) (by lia)
  rw [toksX]
  simp only [List.length_append, List.length_cons, List.flatten_append, List.flatten_cons, tokR, List.length_nil, List.flatten_nil] at i1 i2 ⊢
  exact ⟨by lia, by lia⟩
theorem prep_len {xs : List Nat} (h : xs.length = 7) : (prepF (textOf xs).cps.toList).length ≤ 1000 := by
 have h1 := (toksX_len xs).2
 rw [← prep_text, len_eq] at h1
 lia
theorem ps_len {xs : List Nat} (h : xs.length = 7) : (psOf xs).length ≤ 28 := by
 rw [psOf_eq, List.length_map]
 have := (toksX_len xs).1
 lia
theorem mem_toksX : ∀ (xs : List Nat) (t : List Nat), t ∈ toksX xs ↔ (∃ x ∈ xs, t ∈ tokR x) ∨ (t = [59] ∧ 2 ≤ xs.length)
 | [], t => by simp [toksX]
 | [x], t => by simp [toksX]
 | x :: y :: xs, t => by
  rw [toksX, List.mem_append, List.mem_cons, mem_toksX (y :: xs) t]
  constructor
  ·rintro (h | h | ⟨z, hz, h⟩ | ⟨h, _⟩)
   ·exact .inl ⟨x, .head _, h⟩
   ·exact .inr ⟨h, by simp⟩
   ·exact .inl ⟨z, .tail _ hz, h⟩
   ·exact .inr ⟨h, by simp⟩
  ·rintro (⟨z, hz, h⟩ | ⟨h, _⟩)
   ·rcases List.mem_cons.mp hz with rfl | hz
    ·exact .inl h
    ·exact .inr (.inr (.inl ⟨z, hz, h⟩))
   ·exact .inr (.inl h)
theorem nm_noSign {i : Nat} (hi : i < 6) : isSign (nameAt i) = false := by
 obtain ⟨c, r, e, hc⟩ := nm_head hi []
 rw [List.append_nil] at e
 exact isSign_lt (l := nmL i) (c := c) (by rw [e]; exact .head _) hc
theorem lt6 (x : Nat) : leftOf x < 6 ∧ rightOf x < 6 := ⟨by unfold leftOf; lia, by unfold rightOf; lia⟩
theorem mem_row {xs : List Nat} {y : Str} : y ∈ rowOf xs ↔ ∃ x ∈ xs, y = nameAt (leftOf x) ∨ y = nameAt (rightOf x) := by
 unfold rowOf
 rw [(rowF_rising (psOf xs)).2 y, psOf_eq, List.mem_map]
 constructor
 ·rintro ⟨⟨t, ht, rfl⟩, hs⟩
  rcases (mem_toksX xs t).mp ht with ⟨x, hx, h⟩ | ⟨rfl, _⟩
  ·simp only [tokR, List.mem_cons, List.not_mem_nil, or_false] at h
   rcases h with rfl | rfl | rfl
   ·exact ⟨x, hx, .inl rfl⟩
   ·obtain ⟨a, b, e, s1, _⟩ := mk_ok (x % 4) (by lia)
    rw [e, s1] at hs; cases hs
   ·exact ⟨x, hx, .inr rfl⟩
  ·rw [semi_ok] at hs; cases hs
 ·rintro ⟨x, hx, h⟩
  rcases h with rfl | rfl
  ·exact ⟨⟨nmL (leftOf x), (mem_toksX xs _).mpr (.inl ⟨x, hx, by simp [tokR]⟩), rfl⟩, nm_noSign (lt6 x).1⟩
  ·exact ⟨⟨nmL (rightOf x), (mem_toksX xs _).mpr (.inl ⟨x, hx, by simp [tokR]⟩), rfl⟩, nm_noSign (lt6 x).2⟩
theorem row_rising (xs : List Nat) : Rising (rowOf xs) := (rowF_rising _).1
theorem row6 {xs : List Nat} : ∀ y ∈ rowOf xs, ∃ i, i < 6 ∧ y = nameAt i := fun y hy => by
 obtain ⟨x, _, h⟩ := mem_row.mp hy
 rcases h with rfl | rfl
 ·exact ⟨_, (lt6 x).1, rfl⟩
 ·exact ⟨_, (lt6 x).2, rfl⟩
theorem row_nodup (xs : List Nat) : (rowOf xs).Nodup := List.Pairwise.imp (R := ltS) (S := fun a b => a ≠ b) (fun {a b} h => fun e => by subst e; exact ltS_irrefl _ h) (row_rising xs)
theorem row_len (xs : List Nat) : (rowOf xs).length ≤ 6 :=
 (row_nodup xs).length_le_of_subset (l₂ := names6) fun y hy => by
  obtain ⟨i, hi, rfl⟩ := row6 y hy
  exact name_mem hi
noncomputable def runL (row : List Str) (z : List D × List (Str × Str)) : List Int → Option (List D × List (Str × Str))
 | [] => some z
 | s :: ss => (stepS row z s).bind fun z' => runL row z' ss
theorem runL_app (row : List Str) : ∀ (a b : List Int) z, runL row z (a ++ b) = (runL row z a).bind fun z' => runL row z' b
 | [], b, z => rfl
 | s :: a, b, z => by
  rw [List.cons_append, runL, runL]
  cases stepS row z s with
  | none => rfl
  | some z' => exact runL_app row a b z'
theorem mk_sym : ∀ m, m < 4 → ∃ n : Int, sign? (ofL (mkL m)) = some n ∧ n < 256 ∧ n ≠ 0 ∧ n ≠ 13 ∧ (n = 33 ↔ m = 2) ∧ (n = 27 ↔ m = 3) := by
 intro m hm
 have key : ∀ m, m < 4 → (match sign? (ofL (mkL m)) with
  | some n => decide (n < 256 ∧ n ≠ 0 ∧ n ≠ 13 ∧ (n = 33 ↔ m = 2) ∧ (n = 27 ↔ m = 3))
  | none => false) = true := by decide +kernel
 have := key m hm
 split at this
 ·rename_i n e
  exact ⟨n, e, of_decide_eq_true this⟩
 ·cases this
theorem semi_sym : sign? (ofL [59]) = some 13 := by decide +kernel
noncomputable def nm2 (p : Nat × Nat) : Str × Str := (nameAt p.1, nameAt p.2)
theorem mark_is : ∀ m, m < 4 → ((markL.getD m ⟨#[]⟩ != sz "<<") = decide (m ≠ 2)) ∧ ((markL.getD m ⟨#[]⟩ == sz "<<") = decide (m = 2)) ∧ ((markL.getD m ⟨#[]⟩ == sz "==") = decide (m = 3)) := by decide +kernel
theorem ways_of (x : Nat) : waysOf x = (if x % 4 ≠ 2 then [(leftOf x, rightOf x)] else []) ++ (if x % 4 = 2 ∨ x % 4 = 3 then [(rightOf x, leftOf x)] else []) := by
 obtain ⟨h1, h2, h3⟩ := mark_is (x % 4) (by lia)
 unfold waysOf markOf
 rw [h1, h2, h3]
 simp only [decide_eq_true_eq, Bool.or_eq_true]
section
variable {row : List Str} {R : Rising row}
theorem sym_name (R : Rising row) {i : Nat} (hi : i < 6) (h : nameAt i ∈ row) (z : List D × List (Str × Str)) : stepS row z (symOf row (ofL (nmL i))) = some (z.1 ++ [.str (nameAt i)], z.2) := by
 have e : sign? (nameAt i) = none := by
  have := nm_noSign hi
  unfold isSign at this
  cases h : sign? (nameAt i) with
  | none => rfl
  | some n => rw [h] at this; cases this
 have hs : symOf row (ofL (nmL i)) = 256 + (posIn row (nameAt i) : Nat) := by
  show symOf row (nameAt i) = _
  unfold symOf
  rw [e]
 obtain ⟨h1, h2⟩ := posIn_get R h
 rw [hs]
 unfold stepS
 rw [if_pos (by lia)]
 have : (256 + (posIn row (nameAt i) : Int) - 256).toNat = posIn row (nameAt i) := by lia
 rw [this, List.getElem?_eq_getElem h1]
 rw [List.getD_eq_getElem?_getD, List.getElem?_eq_getElem h1, Option.getD_some] at h2
 rw [h2]
theorem rec_run (R : Rising row) {x : Nat} (hl : nameAt (leftOf x) ∈ row) (hr : nameAt (rightOf x) ∈ row) {e : Int} (he : e = 0 ∨ e = 13) (st : List (Str × Str)) : runL row ([], st) ((tokR x).map (fun t => symOf row (ofL t)) ++ [e]) = some ([], st ++ (waysOf x).map nm2) := by
 obtain ⟨n, hn, n1, n2, n3, n4, n5⟩ := mk_sym (x % 4) (by lia)
 have hsym : symOf row (ofL (mkL (x % 4))) = n := by unfold symOf; rw [hn]
 show runL row ([], st) [symOf row (ofL (nmL (leftOf x))), symOf row (ofL (mkL (x % 4))), symOf row (ofL (nmL (rightOf x))), e] = _
 rw [runL, sym_name R (lt6 x).1 hl]
 show runL row ([.str (nameAt (leftOf x))], st) [_, _, e] = _
 have s2 : stepS row ([.str (nameAt (leftOf x))], st) n = some ([.str (nameAt (leftOf x)), .int n], st) := by
  unfold stepS
  rw [if_neg (by lia), if_neg]
  ·rfl
  ·simp only [Bool.or_eq_true, beq_iff_eq]
   rintro (h | h | h)
   ·exact n2 h
   ·exact n3 h
   ·cases h
 rw [runL, hsym, s2]
 show runL row ([.str (nameAt (leftOf x)), .int n], st) [_, e] = _
 rw [runL, sym_name R (lt6 x).2 hr]
 show runL row ([.str (nameAt (leftOf x)), .int n, .str (nameAt (rightOf x))], st) [e] = _
 have s4 : stepS row ([.str (nameAt (leftOf x)), .int n, .str (nameAt (rightOf x))], st) e = some ([], st ++ (waysOf x).map nm2) := by
  unfold stepS
  rw [if_neg (by lia), if_pos (by rcases he with rfl | rfl <;> rfl)]
  show some _ = some _
  congr 2
  rw [ways_of, List.map_append, List.append_assoc]
  congr 2
  ·by_cases q : x % 4 = 2
   ·rw [if_neg (by simpa using n4.mpr q), if_neg (by simpa using q)]; rfl
   ·rw [if_pos (by simpa using fun h => q (n4.mp h)), if_pos q]; rfl
  ·by_cases q : x % 4 = 2 ∨ x % 4 = 3
   ·rw [if_pos q, if_pos]
    ·rfl
    ·simp only [Bool.or_eq_true, beq_iff_eq]
     rcases q with q | q
     ·exact .inl (n4.mpr q)
     ·exact .inr (.inl (n5.mpr q))
   ·rw [if_neg q, if_neg]
    ·rfl
    ·simp only [Bool.or_eq_true, beq_iff_eq]
     rintro (h | h | h)
     ·exact q (.inl (n4.mp h))
     ·exact q (.inr (n5.mp h))
     ·cases h
 rw [runL, s4]
 rfl
theorem all_run (R : Rising row) : ∀ (xs : List Nat), xs ≠ [] → (∀ x ∈ xs, nameAt (leftOf x) ∈ row ∧ nameAt (rightOf x) ∈ row) → ∀ st, runL row ([], st) ((toksX xs).map (fun t => symOf row (ofL t)) ++ [0]) = some ([], st ++ (xs.flatMap waysOf).map nm2)
 | [], h, _, _ => absurd rfl h
 | [x], _, h, st => by
  have := rec_run R (h x (.head _)).1 (h x (.head _)).2 (e := 0) (.inl rfl) st
  rw [toksX, this]
  simp
 | x :: y :: xs, _, h, st => by
  have := rec_run R (h x (.head _)).1 (h x (.head _)).2 (e := 13) (.inr rfl) st
  have e13 : symOf row (ofL [59]) = 13 := by unfold symOf; rw [semi_sym]
  rw [toksX, List.map_append, List.map_cons, e13, List.append_assoc, List.cons_append, show ∀ (a : List Int) (b : List Int), a ++ 13 :: b = (a ++ [13]) ++ b from fun a b => by simp, runL_app, this]
  show runL row ([], st ++ (waysOf x).map nm2) _ = _
  rw [all_run R (y :: xs) (by simp) (fun z hz => h z (.tail _ hz))]
  simp only [List.flatMap_cons, List.map_append, List.append_assoc]
end
theorem run_len (row : List Str) : ∀ (l : List Int) z z', runL row z l = some z' → z'.1.length ≤ z.1.length + l.length ∧ z'.2.length ≤ z.2.length + 2 * l.length
 | [], z, z', h => by cases h; exact ⟨by simp, by simp⟩
 | s :: l, z, z', h => by
  rw [runL] at h
  cases e : stepS row z s with
  | none => rw [e] at h; cases h
  | some y =>
   rw [e] at h
   have ih := run_len row l y z' h
   have : y.1.length ≤ z.1.length + 1 ∧ y.2.length ≤ z.2.length + 2 := by
    unfold stepS at e
    split at e
    ·split at e
     ·cases e; simp
     ·cases e
    ·split at e
     ·split at e
      ·cases e
       refine ⟨by simp, ?_⟩
       simp only [List.length_append]
       split <;> split <;> simp
      ·cases e
     ·cases e; simp
   simp only [List.length_cons]
   lia
end
noncomputable def Ed (ahead : List (List Nat)) : List (Nat × Nat) := (List.range ahead.length).flatMap fun k => (ahead.getD k []).map fun j => (j, k)
theorem mem_Ed {ahead : List (List Nat)} {j k : Nat} : (j, k) ∈ Ed ahead ↔ k < ahead.length ∧ j ∈ ahead.getD k [] := by
 unfold Ed
 rw [List.mem_flatMap]
 constructor
 ·rintro ⟨x, hx, h⟩
  obtain ⟨y, hy, e⟩ := List.mem_map.mp h
  cases e
  exact ⟨by simpa using hx, hy⟩
 ·rintro ⟨h1, h2⟩
  exact ⟨k, by simpa using h1, List.mem_map.mpr ⟨j, h2, rfl⟩⟩
theorem last_mem {t l₁ l₂ : List Nat} {p f : Nat} (h : t ++ [p] = l₁ ++ f :: l₂) : p ∈ f :: l₂ := by
 rcases List.eq_nil_or_concat l₂ with rfl | ⟨m, z, rfl⟩
 ·obtain ⟨_, h2⟩ := List.append_inj' h rfl
  cases h2; exact .head _
 ·rw [List.concat_eq_append] at h ⊢
  have h' : t ++ [p] = (l₁ ++ f :: m) ++ [z] := by rw [h]; simp
  obtain ⟨_, h2⟩ := List.append_inj' h' rfl
  cases h2; simp
structure Tree (ahead : List (List Nat)) (b : Nat) (a : List Int) (r : Nat → Nat) : Prop where
 len : a.length = ahead.length
 root : a[b]? = some (b : Int)
 val : ∀ k, k < ahead.length → a[k]? ≠ some (-1) → k ≠ b → ∃ p : Nat, a[k]? = some (p : Int) ∧ p < ahead.length ∧ a[p]? ≠ some (-1) ∧ r p < r k
 hd : ∀ k, k < ahead.length → k ≠ b → a[k]? ≠ some (-1) → ∃ j, (j, k) ∈ Ed ahead ∧ a[j]? ≠ some (-1) ∧ r j < r k
 path : ∀ k p : Nat, k ≠ b → a[k]? = some (p : Int) → ∀ d : Nat, d ≠ p → d ≠ k → Reach (Ed ahead) (d : Int) p k
section
variable {ahead : List (List Nat)} {b : Nat} {a a' : List Int} {r : Nat → Nat}
theorem Tree.up (T : Tree ahead b a r) (hb : b < ahead.length) : ∀ m v, r v ≤ m → v < ahead.length → a[v]? ≠ some (-1) → ∃ l, Up a v l ∧ (∀ x ∈ l, x < ahead.length ∧ r x ≤ r v ∧ a[x]? ≠ some (-1)) ∧ l.Nodup ∧ ∃ t, l = b :: t := by
 have base : ∃ l, Up a b l ∧ (∀ x ∈ l, x < ahead.length ∧ r x ≤ r b ∧ a[x]? ≠ some (-1)) ∧ l.Nodup ∧ ∃ t, l = b :: t := by
  refine ⟨[b], .root T.root, fun x hx => ?_, by simp, [], rfl⟩
  simp only [List.mem_singleton] at hx
  subst hx
  exact ⟨hb, Nat.le_refl _, by rw [T.root]; intro e; have := Option.some.inj e; lia⟩
 intro m
 induction m with
 | zero =>
  intro v hm hv hh
  by_cases e : v = b
  ·subst e; exact base
  ·obtain ⟨p, _, _, _, h⟩ := T.val v hv hh e; lia
 | succ m ih =>
  intro v hm hv hh
  by_cases e : v = b
  ·subst e; exact base
  ·obtain ⟨p, ep, hp, hph, h⟩ := T.val v hv hh e
   obtain ⟨l, u, hl, nd, t, ht⟩ := ih p (by lia) hp hph
   refine ⟨l ++ [v], .step ep (by rintro rfl; lia) u, fun x hx => ?_, ?_, t ++ [v], by rw [ht]; rfl⟩
   ·rcases List.mem_append.mp hx with hx | hx
    ·obtain ⟨h1, h2, h3⟩ := hl x hx; exact ⟨h1, by lia, h3⟩
    ·simp only [List.mem_singleton] at hx; subst hx; exact ⟨hv, Nat.le_refl _, hh⟩
   ·rw [List.nodup_append]
    refine ⟨nd, by simp, fun x hx y hy => ?_⟩
    simp only [List.mem_singleton] at hy
    subst hy
    rintro rfl
    have := (hl x hx).2.1
    lia
theorem Tree.chain (T : Tree ahead b a r) (hb : b < ahead.length) {v : Nat} (hv : v < ahead.length) (hh : a[v]? ≠ some (-1)) : ∃ l, Up a v l ∧ (∀ x ∈ l, x < ahead.length ∧ r x ≤ r v ∧ a[x]? ≠ some (-1)) ∧ l.Nodup ∧ ∃ t, l = b :: t := T.up hb (r v) v (Nat.le_refl _) hv hh
theorem Tree.facts (T : Tree ahead b a r) (hb : b < ahead.length) {v : Nat} {l : List Nat} (u : Up a v l) (hv : v < ahead.length) (hh : a[v]? ≠ some (-1)) : (∀ x ∈ l, x < ahead.length ∧ r x ≤ r v ∧ a[x]? ≠ some (-1)) ∧ l.Nodup ∧ (∃ t, l = b :: t) ∧ l.length ≤ ahead.length := by
 obtain ⟨l', u', h1, h2, h3⟩ := T.chain hb hv hh
 rw [← u.uniq u'] at h1 h2 h3
 refine ⟨h1, h2, h3, ?_⟩
 have : l.length ≤ (List.range ahead.length).length := h2.length_le_of_subset fun x hx => by simpa using (h1 x hx).1
 simpa using this
theorem Tree.walk (T : Tree ahead b a r) {v : Nat} {l : List Nat} (u : Up a v l) : ∀ l₁ (f : Nat) l₂ (d : Nat), l = l₁ ++ f :: l₂ → d ∉ f :: l₂ → Reach (Ed ahead) (d : Int) f v := by
 induction u with
 | @root v e =>
  intro l₁ f l₂ d h nd
  have hf : f = v ∧ l₂ = [] := by
   cases l₁ with
   | nil => cases h; exact ⟨rfl, rfl⟩
   | cons x l₁ => have := congrArg List.length h; simp at this
  obtain ⟨rfl, rfl⟩ := hf
  refine .base ?_
  simp only [List.mem_singleton] at nd; lia
 | @step v p l e ne u ih =>
  intro l₁ f l₂ d h nd
  rcases List.eq_nil_or_concat l₂ with rfl | ⟨l₂', z, rfl⟩
  ·have : f = v := by
    have := congrArg List.getLast? h
    simpa using this.symm
   subst this
   refine .base ?_
   simp only [List.mem_singleton] at nd; lia
  ·rw [List.concat_eq_append] at h nd
   have h' : l ++ [v] = (l₁ ++ f :: l₂') ++ [z] := by rw [h]; simp
   obtain ⟨h1, h2⟩ := List.append_inj' h' rfl
   cases h2
   have nv : d ≠ v := fun z => nd (by subst z; simp)
   have nd' : d ∉ f :: l₂' := fun z => nd (by simp only [List.mem_cons, List.mem_append] at z ⊢; rcases z with z | z <;> simp [z])
   have hp : d ≠ p := by
    rintro rfl
    obtain ⟨t, ht⟩ := u.last
    rw [ht] at h1
    exact nd' (last_mem h1)
   have nb : v ≠ b := by
    rintro rfl
    rw [T.root] at e
    exact ne (by have := Option.some.inj e; lia)
   exact (ih l₁ f l₂' d h1 nd').trans (T.path v p nb e d hp nv)
noncomputable def FS (a : List Int) (seen fr : List Nat) : Prop :=
 (fr = [] ∧ ∀ j ∈ seen, a[j]? = some (-1)) ∨
 (fr ≠ [] ∧ (∃ j ∈ seen, a[j]? ≠ some (-1)) ∧ (∃ f, Up a f fr) ∧ (∀ j ∈ seen, a[j]? ≠ some (-1) → ∀ l, Up a j l → fr <+: l) ∧
  ∀ P, (∀ j ∈ seen, a[j]? ≠ some (-1) → ∀ l, Up a j l → P <+: l) → P <+: fr)
theorem getD_hung {j : Nat} (hj : j < a.length) : (a.getD j (-1) != -1) = true ↔ a[j]? ≠ some (-1) := by
 rw [List.getD_eq_getElem?_getD, List.getElem?_eq_getElem hj]
 simp
theorem Tree.front_step (T : Tree ahead b a r) (hb : b < ahead.length) (h6 : ahead.length ≤ 6) {seen fr : List Nat} (hs : ∀ j ∈ seen, j < ahead.length) {j : Nat} (hj : j < ahead.length) (F : FS a seen fr) : FS a (seen ++ [j]) (frontStep a fr j) := by
 have hja : j < a.length := by rw [T.len]; exact hj
 unfold frontStep
 by_cases hh : a[j]? = some (-1)
 ·have : (a.getD j (-1) != -1) = false := by
   cases h : (a.getD j (-1) != -1) with
   | false => rfl
   | true => exact absurd hh ((getD_hung hja).mp h)
  rw [this, if_neg (by decide)]
  have key : ∀ x ∈ seen ++ [j], a[x]? ≠ some (-1) → x ∈ seen := fun x hx hn => by
   rcases List.mem_append.mp hx with hx | hx
   ·exact hx
   ·simp only [List.mem_singleton] at hx; subst hx; exact absurd hh hn
  rcases F with ⟨h1, h2⟩ | ⟨h1, ⟨i, h2, h2'⟩, h3, h4, h5⟩
  ·refine .inl ⟨h1, fun x hx => ?_⟩
   rcases List.mem_append.mp hx with hx | hx
   ·exact h2 x hx
   ·simp only [List.mem_singleton] at hx; subst hx; exact hh
  ·exact .inr ⟨h1, ⟨i, List.mem_append_left _ h2, h2'⟩, h3, fun x hx hn l u => h4 x (key x hx hn) hn l u, fun P hP => h5 P fun x hx hn l u => hP x (List.mem_append_left _ hx) hn l u⟩
 ·rw [if_pos ((getD_hung hja).mpr hh)]
  obtain ⟨l, u, hl, nd, t, ht⟩ := T.chain hb hj hh
  have hl6 : l.length ≤ 8 := by have := (T.facts hb u hj hh).2.2.2; lia
  rw [chainOf_up u hl6]
  have lne : l ≠ [] := by rw [ht]; simp
  rcases F with ⟨h1, h2⟩ | ⟨h1, ⟨i, h2, h2'⟩, ⟨f, h3⟩, h4, h5⟩
  ·subst h1
   rw [if_pos (by rfl)]
   refine .inr ⟨lne, ⟨j, by simp, hh⟩, ⟨j, u⟩, fun x hx hn l' u' => ?_, fun P hP => hP j (by simp) hh l u⟩
   rcases List.mem_append.mp hx with hx | hx
   ·exact absurd (h2 x hx) hn
   ·simp only [List.mem_singleton] at hx; subst hx; rw [u.uniq u']; exact List.prefix_refl _
  ·rw [if_neg (by simpa using h1), frontF_lcp h3 u]
   obtain ⟨p1, p2⟩ := lcp_pre fr l
   obtain ⟨li, ui, hli, ndi, ti, hti⟩ := T.chain hb (hs i h2) h2'
   have hfr := h4 i h2 h2' li ui
   have hbf : [b] <+: fr := by
    obtain ⟨q, hq⟩ := hfr
    cases fr with
    | nil => exact absurd rfl h1
    | cons y ys => rw [hti] at hq; cases hq; exact ⟨ys, rfl⟩
   have hbl : [b] <+: l := by rw [ht]; exact ⟨t, rfl⟩
   have ne : lcp fr l ≠ [] := fun e => by
    have := lcp_max [b] fr l hbf hbl
    rw [e] at this
    exact absurd (List.prefix_nil.mp this) (by simp)
   refine .inr ⟨ne, ⟨j, by simp, hh⟩, ?_, fun x hx hn l' u' => ?_, fun P hP => lcp_max P fr l (h5 P fun x hx hn l' u' => hP x (List.mem_append_left _ hx) hn l' u') (hP j (by simp) hh l u)⟩
   ·have e := List.prefix_iff_eq_take.mp p1
    have hlen : (lcp fr l).length ≤ fr.length := p1.length_le
    have hpos : 0 < (lcp fr l).length := List.length_pos_iff.mpr ne
    refine ⟨fr.getD ((lcp fr l).length - 1) 0, ?_⟩
    have := h3.take ((lcp fr l).length - 1) (by lia)
    rw [show (lcp fr l).length - 1 + 1 = (lcp fr l).length by lia, ← e] at this
    exact this
   ·rcases List.mem_append.mp hx with hx | hx
    ·exact p1.trans (h4 x hx hn l' u')
    ·simp only [List.mem_singleton] at hx; subst hx; rw [← u.uniq u']; exact p2
theorem Tree.front (T : Tree ahead b a r) (hb : b < ahead.length) (h6 : ahead.length ≤ 6) : ∀ (hs : List Nat) (seen fr : List Nat), (∀ j ∈ hs, j < ahead.length) → (∀ j ∈ seen, j < ahead.length) → FS a seen fr → FS a (seen ++ hs) (hs.foldl (frontStep a) fr)
 | [], seen, fr, _, _, F => by rw [List.append_nil]; exact F
 | j :: hs, seen, fr, h, h', F => by
  rw [List.foldl_cons]
  have := T.front hb h6 hs (seen ++ [j]) _ (fun x hx => h x (.tail _ hx)) (fun x hx => by
   rcases List.mem_append.mp hx with hx | hx
   ·exact h' x hx
   ·simp only [List.mem_singleton] at hx; subst hx; exact h x (.head _)) (T.front_step hb h6 h' (h j (.head _)) F)
  rwa [List.append_assoc] at this
theorem Tree.frontOf (T : Tree ahead b a r) (hb : b < ahead.length) (h6 : ahead.length ≤ 6) {hs : List Nat} (h : ∀ j ∈ hs, j < ahead.length) : FS a hs (frontOf a hs) := by
 have := T.front hb h6 hs [] [] h (fun x hx => by cases hx) (.inl ⟨rfl, fun x hx => by cases hx⟩)
 exact this
end
structure Move (ahead : List (List Nat)) (b : Nat) (a : List Int) (r : Nat → Nat) (k : Nat) (a' : List Int) (F : List Nat) (f : Nat) : Prop where
 kb : k ≠ b
 kn : k < ahead.length
 up : Up a f F
 pre : ∀ j, (j, k) ∈ Ed ahead → a[j]? ≠ some (-1) → ∀ l, Up a j l → F <+: l
 max : ∀ P, (∀ j, (j, k) ∈ Ed ahead → a[j]? ≠ some (-1) → ∀ l, Up a j l → P <+: l) → P <+: F
 wit : ∃ j, (j, k) ∈ Ed ahead ∧ a[j]? ≠ some (-1) ∧ (a[k]? ≠ some (-1) → r j < r k)
 kF : k ∉ F
 new : a[k]? ≠ some (f : Int)
 set : a' = a.set k (f : Int)
 ff : f < ahead.length ∧ a[f]? ≠ some (-1)
section
variable {ahead : List (List Nat)} {b k : Nat} {a a' : List Int} {r : Nat → Nat}
theorem Up.last_eq {v : Nat} {l : List Nat} (u : Up a v l) : l.getLast? = some v := by
 obtain ⟨t, rfl⟩ := u.last
 simp
theorem Up.mem_self {v : Nat} {l : List Nat} (u : Up a v l) : v ∈ l := by
 obtain ⟨t, rfl⟩ := u.last
 simp
theorem Up.sub {v x : Nat} {l : List Nat} (u : Up a v l) (hx : x ∈ l) : ∃ l', Up a x l' ∧ l' <+: l := by
 obtain ⟨i, hi, e⟩ := List.mem_iff_getElem.mp hx
 have := u.take i hi
 rw [List.getD_eq_getElem?_getD, List.getElem?_eq_getElem hi, Option.getD_some, e] at this
 exact ⟨_, this, List.take_prefix _ _⟩
theorem heads_lt (hh : ∀ hs ∈ ahead, ∀ j ∈ hs, j < ahead.length) {j k : Nat} (h : (j, k) ∈ Ed ahead) : j < ahead.length ∧ k < ahead.length := by
 obtain ⟨h1, h2⟩ := mem_Ed.mp h
 refine ⟨?_, h1⟩
 rw [List.getD_eq_getElem?_getD, List.getElem?_eq_getElem h1, Option.getD_some] at h2
 exact hh _ (List.getElem_mem h1) j h2
theorem Tree.fspec (T : Tree ahead b a r) (hb : b < ahead.length) (h6 : ahead.length ≤ 6) (hh : ∀ hs ∈ ahead, ∀ j ∈ hs, j < ahead.length) (hk : k < ahead.length) : FS a (ahead.getD k []) (Dom.frontOf a (ahead.getD k [])) :=
 T.frontOf hb h6 fun j hj => (heads_lt hh (mem_Ed.mpr ⟨hk, hj⟩)).1
theorem Tree.move (T : Tree ahead b a r) (hb : b < ahead.length) (h6 : ahead.length ≤ 6) (hh : ∀ hs ∈ ahead, ∀ j ∈ hs, j < ahead.length) (hk : k < ahead.length) (h : turn b ahead a k = some a') : ∃ F f, Move ahead b a r k a' F f := by
 have FSk := T.fspec hb h6 hh hk
 unfold turn at h
 dsimp only at h
 obtain ⟨F, hF⟩ : ∃ F, F = Dom.frontOf a (ahead.getD k []) := ⟨_, rfl⟩
 rw [← hF] at h FSk
 split at h
 ·rename_i c
  simp only [Bool.and_eq_true, bne_iff_ne, ne_eq] at c
  obtain ⟨c1, c2, c3⟩ := c
  rcases FSk with ⟨e, _⟩ | ⟨_, ⟨j, hj, hjh⟩, ⟨f, uf⟩, pre, mx⟩
  ·exact absurd e c2
  ·have hl : F.getLast?.getD 0 = f := by rw [uf.last_eq]; rfl
   rw [hl] at c3 h
   have hka : k < a.length := by rw [T.len]; exact hk
   obtain ⟨hj1, _⟩ := heads_lt hh (mem_Ed.mpr ⟨hk, hj⟩)
   have hsm : ∃ j, (j, k) ∈ Ed ahead ∧ a[j]? ≠ some (-1) ∧ (a[k]? ≠ some (-1) → r j < r k) := by
    by_cases hkh : a[k]? = some (-1)
    ·exact ⟨j, mem_Ed.mpr ⟨hk, hj⟩, hjh, fun n => absurd hkh n⟩
    ·obtain ⟨j', h1, h2, h3⟩ := T.hd k hk (by lia) hkh
     exact ⟨j', h1, h2, fun _ => h3⟩
   have pre' : ∀ j, (j, k) ∈ Ed ahead → a[j]? ≠ some (-1) → ∀ l, Up a j l → F <+: l := fun j m => pre j (mem_Ed.mp m).2
   obtain ⟨j', h1, h2, h3⟩ := hsm
   obtain ⟨l', u', hl', _, _⟩ := T.chain hb (heads_lt hh h1).1 h2
   have sub : ∀ x ∈ F, x ∈ l' := fun x hx => (pre' j' h1 h2 l' u').subset hx
   have fF := hl' f (sub f uf.mem_self)
   refine ⟨F, f, by lia, hk, uf, pre', fun P hP => mx P fun j hj => hP j (mem_Ed.mpr ⟨hk, hj⟩), ⟨j', h1, h2, h3⟩, fun q => ?_, fun e => c3 ?_, (Option.some.inj h).symm, fF.1, fF.2.2⟩
   ·obtain ⟨_, g2, g3⟩ := hl' k (sub k q)
    have := h3 g3; lia
   ·rw [List.getD_eq_getElem?_getD, e]; rfl
 ·cases h
theorem bound_r (r : Nat → Nat) : ∀ n, ∃ M, ∀ x, x < n → r x < M
 | 0 => ⟨0, fun x h => absurd h (Nat.not_lt_zero x)⟩
 | n + 1 => by
  obtain ⟨M, h⟩ := bound_r r n
  refine ⟨M + r n + 1, fun x hx => ?_⟩
  rcases Nat.lt_or_eq_of_le (Nat.le_of_lt_succ hx) with q | rfl
  ·have := h x q; lia
  ·lia
theorem Move.path {F : List Nat} {f : Nat} (T : Tree ahead b a r) (hb : b < ahead.length) (hh : ∀ hs ∈ ahead, ∀ j ∈ hs, j < ahead.length) (M : Move ahead b a r k a' F f) {d : Nat} (h1 : d ≠ f) (h2 : d ≠ k) : Reach (Ed ahead) (d : Int) f k := by
 obtain ⟨F₁, hF₁⟩ := M.up.last
 by_cases all : ∀ j, (j, k) ∈ Ed ahead → a[j]? ≠ some (-1) → ∀ l, Up a j l → d ∈ l
 ·obtain ⟨j, m, hj, _⟩ := M.wit
  obtain ⟨l, u, hl, nd, _⟩ := T.chain hb (heads_lt hh m).1 hj
  obtain ⟨ld, ud, _⟩ := u.sub (all j m hj l u)
  have : ld <+: F := M.max ld fun j' m' hj' l' u' => by
   obtain ⟨ld', ud', p'⟩ := u'.sub (all j' m' hj' l' u')
   rw [ud.uniq ud']; exact p'
  have dF : d ∈ F := this.subset ud.mem_self
  obtain ⟨y, hy⟩ := M.pre j m hj l u
  rw [hF₁] at hy dF
  have e : l = F₁ ++ f :: y := by rw [← hy]; simp
  have dF1 : d ∈ F₁ := by
   rcases List.mem_append.mp dF with q | q
   ·exact q
   ·simp only [List.mem_singleton] at q; exact absurd q h1
  rw [e] at nd
  refine .step (T.walk u F₁ f y d e fun q => ?_) m (by lia)
  exact (List.nodup_append.mp nd).2.2 d dF1 d q rfl
 ·simp only [Classical.not_forall] at all
  obtain ⟨j, m, hj, l, u, nd⟩ := all
  obtain ⟨y, hy⟩ := M.pre j m hj l u
  rw [hF₁] at hy
  have e : l = F₁ ++ f :: y := by rw [← hy]; simp
  refine .step (T.walk u F₁ f y d e fun q => nd ?_) m (by lia)
  rw [e]; exact List.mem_append_right _ q
theorem set_get {k x : Nat} {v : Int} (hk : k < a.length) : (a.set k v)[x]? = if k = x then some v else a[x]? := by
 rw [List.getElem?_set]
 split
 ·first | rfl | simp [hk]
 ·rfl
theorem Tree.step {F : List Nat} {f : Nat} (T : Tree ahead b a r) (hb : b < ahead.length) (hh : ∀ hs ∈ ahead, ∀ j ∈ hs, j < ahead.length) (M : Move ahead b a r k a' F f) : ∃ r', Tree ahead b a' r' := by
 have hka : k < a.length := by rw [T.len]; exact M.kn
 have ga : ∀ x, a'[x]? = if k = x then some (f : Int) else a[x]? := fun x => by rw [M.set]; exact set_get hka
 have hfk : f ≠ k := fun e => M.kF (e ▸ M.up.mem_self)
 obtain ⟨j, m, hj, hjr⟩ := M.wit
 obtain ⟨l, u, hl, _⟩ := T.chain hb (heads_lt hh m).1 hj
 have frj : r f ≤ r j := (hl f ((M.pre j m hj l u).subset M.up.mem_self)).2.1
 obtain ⟨B, hB⟩ := bound_r r ahead.length
 obtain ⟨r', hr'⟩ : ∃ r' : Nat → Nat, r' = fun x => if x = k ∧ a[k]? = some (-1) then B else r x := ⟨_, rfl⟩
 have ro : ∀ x, x ≠ k → r' x = r x := fun x hx => by rw [hr']; exact if_neg fun q => hx q.1
 have rk : ∀ x, x < ahead.length → x ≠ k → r x < r k ∨ a[k]? = some (-1) → r' x < r' k := fun x hx ne h => by
  rw [ro x ne, hr']
  show r x < if k = k ∧ a[k]? = some (-1) then B else r k
  by_cases e : a[k]? = some (-1)
  ·rw [if_pos ⟨rfl, e⟩]; exact hB x hx
  ·rw [if_neg fun q => e q.2]; exact h.resolve_right e
 have hung : ∀ x, a[x]? ≠ some (-1) → a'[x]? ≠ some (-1) := fun x h => by
  rw [ga]; split
  ·intro e; have := Option.some.inj e; lia
  ·exact h
 have jk : a[k]? = some (-1) → j ≠ k := fun e q => hj (q ▸ e)
 have rk' : ∀ x y, x < ahead.length → y ≠ k → r x < r y → a[x]? ≠ some (-1) → r' x < r' y := fun x y hx hy h hxh => by
  rw [ro y hy]
  by_cases e : x = k
  ·subst e
   have : r' x = r x := by rw [hr']; exact if_neg fun q => hxh q.2
   rw [this]; exact h
  ·rw [ro x e]; exact h
 refine ⟨r', ⟨by rw [M.set, List.length_set, T.len], by rw [ga, if_neg M.kb]; exact T.root, fun x hx hxh nb => ?_, fun x hx nb hxh => ?_, fun x p nb e d h1 h2 => ?_⟩⟩
 ·by_cases e : k = x
  ·subst e
   refine ⟨f, by rw [ga, if_pos rfl], M.ff.1, hung f M.ff.2, rk f M.ff.1 hfk ?_⟩
   by_cases e : a[k]? = some (-1)
   ·exact .inr e
   ·exact .inl (by have := hjr e; lia)
  ·rw [ga, if_neg e] at hxh
   obtain ⟨p, e1, e2, e3, e4⟩ := T.val x hx hxh nb
   exact ⟨p, by rw [ga, if_neg e]; exact e1, e2, hung p e3, rk' p x e2 (Ne.symm e) e4 e3⟩
 ·by_cases e : k = x
  ·subst e
   refine ⟨j, m, hung j hj, ?_⟩
   by_cases e : a[k]? = some (-1)
   ·exact rk j (heads_lt hh m).1 (jk e) (.inr e)
   ·have := hjr e
    exact rk j (heads_lt hh m).1 (by rintro rfl; lia) (.inl this)
  ·rw [ga, if_neg e] at hxh
   obtain ⟨i, e1, e2, e3⟩ := T.hd x hx nb hxh
   exact ⟨i, e1, hung i e2, rk' i x (heads_lt hh e1).1 (Ne.symm e) e3 e2⟩
 ·rw [ga] at e
  split at e
  ·rename_i ek
   subst ek
   have : p = f := by have := Option.some.inj e; lia
   subst this
   exact M.path T hb hh h1 h2
  ·exact T.path x p nb e d h1 h2
end
inductive Wk (ways : List (Nat × Nat)) (b : Nat) : Nat → Nat → List Nat → Prop
 | base : Wk ways b 0 b [b]
 | step {i x y : Nat} {W : List Nat} : Wk ways b i x W → (x, y) ∈ ways → Wk ways b (i + 1) y (W ++ [y])
section
variable {ways : List (Nat × Nat)} {b : Nat}
theorem Wk.part {i v : Nat} {W : List Nat} (h : Wk ways b i v W) : ∀ {u : Nat}, u ∈ W → ∃ i' W', Wk ways b i' u W' ∧ (∀ x ∈ W', x ∈ W) ∧ (i' < i ∨ (u = v ∧ i' = i)) := by
 induction h with
 | base =>
  intro u hu
  simp only [List.mem_singleton] at hu
  subst hu
  exact ⟨0, [u], .base, fun x h => h, .inr ⟨rfl, rfl⟩⟩
 | @step i x y W h m ih =>
  intro u hu
  rcases List.mem_append.mp hu with hu | hu
  ·obtain ⟨i', W', h', s, q⟩ := ih hu
   exact ⟨i', W', h', fun x hx => List.mem_append_left _ (s x hx), .inl (by lia)⟩
  ·simp only [List.mem_singleton] at hu
   subst hu
   exact ⟨i + 1, W ++ [u], .step h m, fun x h => h, .inr ⟨rfl, rfl⟩⟩
theorem Wk.of {wo : Int} {v : Nat} (h : Reach ways wo b v) : ∃ i W, Wk ways b i v W ∧ ∀ x ∈ W, ((x : Nat) : Int) ≠ wo := by
 induction h with
 | base n => exact ⟨0, [b], .base, fun x hx => by simp only [List.mem_singleton] at hx; subst hx; exact n⟩
 | step _ m n ih =>
  obtain ⟨i, W, h, hW⟩ := ih
  refine ⟨i + 1, _, .step h m, fun x hx => ?_⟩
  rcases List.mem_append.mp hx with hx | hx
  ·exact hW x hx
  ·simp only [List.mem_singleton] at hx; subst hx; exact n
end
noncomputable def Acc (ahead : List (List Nat)) (b : Nat) (a : List Int) (G : Nat → Nat → Prop) : Prop :=
 ∀ i v W, G i v → Wk (Ed ahead) b i v W → v < ahead.length ∧ a[v]? ≠ some (-1) ∧ ∀ l, Up a v l → ∀ x ∈ l, x ∈ W
section
variable {ahead : List (List Nat)} {b k : Nat} {a a' : List Int} {r : Nat → Nat} {F : List Nat} {f : Nat} {G : Nat → Nat → Prop}
theorem Move.len (T : Tree ahead b a r) (M : Move ahead b a r k a' F f) : ∀ x : Nat, a'[x]? = if k = x then some (f : Int) else a[x]? := fun x => by
 rw [M.set]; exact set_get (by rw [T.len]; exact M.kn)
theorem Move.hung (T : Tree ahead b a r) (M : Move ahead b a r k a' F f) : ∀ x : Nat, a[x]? ≠ some (-1) → a'[x]? ≠ some (-1) := fun x h => by
 rw [M.len T]; split
 ·intro e; have := Option.some.inj e; lia
 ·exact h
theorem Move.stay (T : Tree ahead b a r) (M : Move ahead b a r k a' F f) {v : Nat} {l : List Nat} (u : Up a v l) : k ∉ l → Up a' v l := by
 induction u with
 | @root v e =>
  intro n
  have : k ≠ v := fun q => n (q ▸ .head _)
  exact .root (by rw [M.len T, if_neg this]; exact e)
 | @step v p l e ne u ih =>
  intro n
  have h1 : k ≠ v := fun q => n (q ▸ by simp)
  exact .step (by rw [M.len T, if_neg h1]; exact e) ne (ih fun q => n (List.mem_append_left _ q))
theorem Move.upk (T : Tree ahead b a r) (M : Move ahead b a r k a' F f) : Up a' k (F ++ [k]) :=
 .step (by rw [M.len T, if_pos rfl]) (fun e => M.kF (e ▸ M.up.mem_self)) (M.stay T M.up M.kF)
theorem Move.cover (T : Tree ahead b a r) (M : Move ahead b a r k a' F f) {v : Nat} {l' : List Nat} (u' : Up a' v l') : v ≠ k → ∀ l, Up a v l → ∀ x ∈ l', x ∈ l ∨ (k ∈ l ∧ x ∈ F) := by
 induction u' with
 | @root v e =>
  intro hv l u x hx
  simp only [List.mem_singleton] at hx
  subst hx
  exact .inl u.mem_self
 | @step v p l' e ne u' ih =>
  intro hv l u x hx
  rw [M.len T, if_neg (Ne.symm hv)] at e
  obtain ⟨lp, up, rfl⟩ : ∃ lp, Up a p lp ∧ l = lp ++ [v] := by
   rcases u.split with ⟨e', _⟩ | ⟨p', lp, e', _, up, rfl⟩
   ·rw [e] at e'; exact absurd (by have := Option.some.inj e'; lia) ne
   ·rw [e] at e'
    have : p = p' := by have := Option.some.inj e'; lia
    subst this
    exact ⟨lp, up, rfl⟩
  rcases List.mem_append.mp hx with hx | hx
  ·by_cases hp : p = k
   ·subst hp
    rw [u'.uniq (M.upk T)] at hx
    rcases List.mem_append.mp hx with hx | hx
    ·exact .inr ⟨List.mem_append_left _ up.mem_self, hx⟩
    ·simp only [List.mem_singleton] at hx
     subst hx
     exact .inl (List.mem_append_left _ up.mem_self)
   ·rcases ih hp lp up x hx with q | ⟨q1, q2⟩
    ·exact .inl (List.mem_append_left _ q)
    ·exact .inr ⟨List.mem_append_left _ q1, q2⟩
  ·exact .inl (List.mem_append_right _ hx)
theorem Move.inW (T : Tree ahead b a r) (hb : b < ahead.length) (M : Move ahead b a r k a' F f) (A : Acc ahead b a G) {i : Nat} {W : List Nat} (h : Wk (Ed ahead) b i k W) (hG : ∀ i' j, i' < i → G i' j) : ∀ x ∈ F, x ∈ W := by
 cases h with
 | base => exact absurd rfl M.kb
 | @step i j _ W h m =>
  obtain ⟨h1, h2, h3⟩ := A i j W (hG i j (Nat.lt_succ_self _)) h
  obtain ⟨l, u, _⟩ := T.chain hb h1 h2
  exact fun x hx => List.mem_append_left _ (h3 l u x ((M.pre j m h2 l u).subset hx))
theorem Wk.self {ways : List (Nat × Nat)} {b i v : Nat} {W : List Nat} (h : Wk ways b i v W) : v ∈ W := by
 cases h with
 | base => exact .head _
 | step => simp
theorem Move.acck (T : Tree ahead b a r) (hb : b < ahead.length) (M : Move ahead b a r k a' F f) (A : Acc ahead b a G) {i : Nat} {W : List Nat} (h : Wk (Ed ahead) b i k W) (hG : ∀ i' j, i' < i → G i' j) : k < ahead.length ∧ a'[k]? ≠ some (-1) ∧ ∀ l, Up a' k l → ∀ x ∈ l, x ∈ W := by
 refine ⟨M.kn, by rw [M.len T, if_pos rfl]; intro e; have := Option.some.inj e; lia, fun l u x hx => ?_⟩
 rw [u.uniq (M.upk T)] at hx
 rcases List.mem_append.mp hx with hx | hx
 ·exact M.inW T hb A h hG x hx
 ·simp only [List.mem_singleton] at hx
  subst hx
  exact h.self
theorem Move.acc (T : Tree ahead b a r) (hb : b < ahead.length) (M : Move ahead b a r k a' F f) (A : Acc ahead b a G) (hG : ∀ i v, G i v → ∀ i' u, i' < i → G i' u) : Acc ahead b a' G := fun i v W g h => by
 by_cases hv : v = k
 ·subst hv
  exact M.acck T hb A h (hG i v g)
 ·obtain ⟨h1, h2, h3⟩ := A i v W g h
  refine ⟨h1, M.hung T v h2, fun l' u' x hx => ?_⟩
  obtain ⟨l, u, _⟩ := T.chain hb h1 h2
  rcases M.cover T u' hv l u x hx with q | ⟨q1, q2⟩
  ·exact h3 l u x q
  ·obtain ⟨i', W', h', s, q⟩ := h.part (h3 l u k q1)
   rcases q with q | ⟨q, _⟩
   ·exact s x (M.inW T hb A h' (fun i'' j hi => hG i v g i'' j (by lia)) x q2)
   ·exact absurd q.symm hv
theorem keep_acck (T : Tree ahead b a r) (hb : b < ahead.length) (h6 : ahead.length ≤ 6) (hh : ∀ hs ∈ ahead, ∀ j ∈ hs, j < ahead.length) (hk : k < ahead.length) (ht : turn b ahead a k = none) (A : Acc ahead b a G) {i : Nat} {W : List Nat} (h : Wk (Ed ahead) b i k W) (hG : ∀ i' j, i' < i → G i' j) : k < ahead.length ∧ a[k]? ≠ some (-1) ∧ ∀ l, Up a k l → ∀ x ∈ l, x ∈ W := by
 by_cases kb : k = b
 ·subst kb
  refine ⟨hk, by rw [T.root]; intro e; have := Option.some.inj e; lia, fun l u x hx => ?_⟩
  rw [u.uniq (.root T.root)] at hx
  simp only [List.mem_singleton] at hx
  subst hx
  exact h.self
 ·cases h with
  | base => exact absurd rfl kb
  | @step i j _ W h m =>
   obtain ⟨h1, h2, h3⟩ := A i j W (hG i j (Nat.lt_succ_self _)) h
   obtain ⟨l, u, _⟩ := T.chain hb h1 h2
   have FSk := T.fspec hb h6 hh hk
   unfold turn at ht
   dsimp only at ht
   obtain ⟨F, hF⟩ : ∃ F, F = Dom.frontOf a (ahead.getD k []) := ⟨_, rfl⟩
   rw [← hF] at ht FSk
   rcases FSk with ⟨_, e⟩ | ⟨Fne, _, ⟨f, uf⟩, pre, _⟩
   ·exact absurd (e j (mem_Ed.mp m).2) h2
   ·have hl : F.getLast?.getD 0 = f := by rw [uf.last_eq]; rfl
    rw [hl] at ht
    have hka : k < a.length := by rw [T.len]; exact hk
    have ak : a[k]? = some (f : Int) := by
     split at ht
     ·cases ht
     ·rename_i c
      refine Classical.byContradiction fun q => c ?_
      simp only [Bool.and_eq_true, bne_iff_ne, ne_eq]
      refine ⟨by lia, Fne, fun e => q ?_⟩
      rw [List.getD_eq_getElem?_getD, List.getElem?_eq_getElem hka] at e
      rw [List.getElem?_eq_getElem hka]
      exact congrArg some e
    have hkh : a[k]? ≠ some (-1) := by rw [ak]; intro e; have := Option.some.inj e; lia
    have fk : f ≠ k := by
     rintro rfl
     obtain ⟨p, e1, _, _, e4⟩ := T.val f hk hkh kb
     rw [ak] at e1
     have : f = p := by have := Option.some.inj e1; lia
     subst this
     lia
    refine ⟨hk, hkh, fun l' u' x hx => ?_⟩
    rw [u'.uniq (.step ak fk uf)] at hx
    rcases List.mem_append.mp hx with hx | hx
    ·exact List.mem_append_left _ (h3 l u x ((pre j (mem_Ed.mp m).2 h2 l u).subset hx))
    ·simp only [List.mem_singleton] at hx
     subst hx
     simp
noncomputable def Gk (N k : Nat) (i v : Nat) : Prop := i ≤ N ∨ (i = N + 1 ∧ v < k)
theorem turns_at (hb : b < ahead.length) (h6 : ahead.length ≤ 6) (hh : ∀ hs ∈ ahead, ∀ j ∈ hs, j < ahead.length) (N : Nat) : ∀ (m : Nat), m ≤ ahead.length → ∀ a r, Tree ahead b a r → Acc ahead b a (Gk N 0) →
  ∃ r', Tree ahead b (((List.range m).foldl (turns b ahead) (a, false)).1) r' ∧ Acc ahead b (((List.range m).foldl (turns b ahead) (a, false)).1) (Gk N m)
 | 0, _, a, r, T, A => ⟨r, T, A⟩
 | m + 1, hm, a, r, T, A => by
  obtain ⟨r₁, T₁, A₁⟩ := turns_at hb h6 hh N m (by lia) a r T A
  rw [List.range_succ, List.foldl_append]
  obtain ⟨z, hz⟩ : ∃ z, z = (List.range m).foldl (turns b ahead) (a, false) := ⟨_, rfl⟩
  rw [← hz] at T₁ A₁ ⊢
  show ∃ r', Tree ahead b (turns b ahead z m).1 r' ∧ Acc ahead b (turns b ahead z m).1 (Gk N (m + 1))
  have cl : ∀ i v, Gk N m i v → ∀ i' u, i' < i → Gk N m i' u := fun i v g i' u h => by
   rcases g with g | g
   ·exact .inl (by lia)
   ·exact .inl (by lia)
  unfold turns
  cases ht : turn b ahead z.1 m with
  | none =>
   refine ⟨r₁, T₁, fun i v W g h => ?_⟩
   by_cases q : Gk N m i v
   ·exact A₁ i v W q h
   ·have : i = N + 1 ∧ v = m := by
     rcases g with g | ⟨g1, g2⟩
     ·exact absurd (.inl g) q
     ·refine ⟨g1, ?_⟩
      refine Classical.byContradiction fun e => q (.inr ⟨g1, by lia⟩)
    obtain ⟨rfl, rfl⟩ := this
    exact keep_acck T₁ hb h6 hh (by lia) ht A₁ h fun i' j hi => .inl (by lia)
  | some a' =>
   obtain ⟨F, f, M⟩ := T₁.move hb h6 hh (by lia) ht
   obtain ⟨r₂, T₂⟩ := T₁.step hb hh M
   refine ⟨r₂, T₂, fun i v W g h => ?_⟩
   by_cases q : Gk N m i v
   ·exact M.acc T₁ hb A₁ cl i v W q h
   ·have : i = N + 1 ∧ v = m := by
     rcases g with g | ⟨g1, g2⟩
     ·exact absurd (.inl g) q
     ·refine ⟨g1, ?_⟩
      refine Classical.byContradiction fun e => q (.inr ⟨g1, by lia⟩)
    obtain ⟨rfl, rfl⟩ := this
    exact M.acck T₁ hb A₁ h fun i' j hi => .inl (by lia)
end
theorem bound_ex {P : Nat → Nat → Prop} (mono : ∀ v N N', N ≤ N' → P v N → P v N') (h : ∀ v, ∃ N, P v N) : ∀ n, ∃ N, ∀ v, v < n → P v N
 | 0 => ⟨0, fun v hv => absurd hv (Nat.not_lt_zero v)⟩
 | n + 1 => by
  obtain ⟨N, hN⟩ := bound_ex mono h n
  obtain ⟨N', hN'⟩ := h n
  refine ⟨N + N', fun v hv => ?_⟩
  rcases Nat.lt_or_eq_of_le (Nat.le_of_lt_succ hv) with q | rfl
  ·exact mono v N _ (Nat.le_add_right _ _) (hN v q)
  ·exact mono v N' _ (Nat.le_add_left _ _) hN'
section
variable {ahead : List (List Nat)} {b k : Nat} {a a' : List Int} {r : Nat → Nat} {F : List Nat} {f : Nat} {G : Nat → Nat → Prop}
noncomputable def Enough (ahead : List (List Nat)) (b N : Nat) : Prop := ∀ v, v < ahead.length → ∀ t, t < ahead.length + 1 → Reach (Ed ahead) ((t : Int) - 1) b v → ∃ i, i ≤ N ∧ ∃ W, Wk (Ed ahead) b i v W ∧ ∀ x ∈ W, ((x : Nat) : Int) ≠ (t : Int) - 1
theorem enough (ahead : List (List Nat)) (b : Nat) : ∃ N, Enough ahead b N := by
 refine bound_ex (P := fun v N => ∀ t, t < ahead.length + 1 → Reach (Ed ahead) ((t : Int) - 1) b v → ∃ i, i ≤ N ∧ ∃ W, Wk (Ed ahead) b i v W ∧ ∀ x ∈ W, ((x : Nat) : Int) ≠ (t : Int) - 1) (fun v N N' h q t ht R => ?_) (fun v => ?_) _
 ·obtain ⟨i, hi, z⟩ := q t ht R
  exact ⟨i, by lia, z⟩
 ·refine bound_ex (P := fun t N => Reach (Ed ahead) ((t : Int) - 1) b v → ∃ i, i ≤ N ∧ ∃ W, Wk (Ed ahead) b i v W ∧ ∀ x ∈ W, ((x : Nat) : Int) ≠ (t : Int) - 1) (fun t N N' h q R => ?_) (fun t => ?_) _
  ·obtain ⟨i, hi, z⟩ := q R
   exact ⟨i, by lia, z⟩
  ·by_cases R : Reach (Ed ahead) ((t : Int) - 1) b v
   ·obtain ⟨i, W, h⟩ := Wk.of R
    exact ⟨i, fun _ => ⟨i, Nat.le_refl _, W, h⟩⟩
   ·exact ⟨0, fun q => absurd q R⟩
theorem Tree.out (T : Tree ahead b a r) (hb : b < ahead.length) {v : Nat} {l : List Nat} (hv : v < ahead.length) (hh : a[v]? ≠ some (-1)) (u : Up a v l) {x : Nat} (hx : x ∉ l) : Reach (Ed ahead) (x : Int) b v := by
 obtain ⟨_, _, ⟨t, ht⟩, _⟩ := T.facts hb u hv hh
 exact T.walk u [] b t x ht (ht ▸ hx)
theorem Tree.reached (T : Tree ahead b a r) (hb : b < ahead.length) {v : Nat} (hv : v < ahead.length) (hh : a[v]? ≠ some (-1)) : Reach (Ed ahead) (-1) b v := by
 obtain ⟨l, u, hl, _⟩ := T.chain hb hv hh
 exact (T.out hb hv hh u (x := ahead.length) fun q => absurd (hl _ q).1 (Nat.lt_irrefl _)).free
theorem acc_dom (T : Tree ahead b a r) (hb : b < ahead.length) {N : Nat} (A : Acc ahead b a (fun i _ => i ≤ N)) (E : Enough ahead b N) {v : Nat} {l : List Nat} (hv : v < ahead.length) (hh : a[v]? ≠ some (-1)) (u : Up a v l) {x : Nat} (hx : x ∈ l) : Dm (Ed ahead) b v x := fun R => by
 have hxn := ((T.facts hb u hv hh).1 x hx).1
 obtain ⟨i, hi, W, h, hW⟩ := E v hv (x + 1) (by omega) (by rw [show ((x + 1 : Nat) : Int) - 1 = (x : Int) by omega]; exact R)
 obtain ⟨_, _, h3⟩ := A i v W hi h
 exact hW x (h3 l u x hx) (by omega)
theorem quiet (T : Tree ahead b a r) (hb : b < ahead.length) (h6 : ahead.length ≤ 6) (hh : ∀ hs ∈ ahead, ∀ j ∈ hs, j < ahead.length) {N : Nat} (A : Acc ahead b a (fun i _ => i ≤ N)) (E : Enough ahead b N) (hk : k < ahead.length) : turn b ahead a k = none := by
 cases ht : turn b ahead a k with
 | none => rfl
 | some a' =>
  exfalso
  obtain ⟨F, f, M⟩ := T.move hb h6 hh hk ht
  obtain ⟨r', T'⟩ := T.step hb hh M
  have A' : Acc ahead b a' (fun i _ => i ≤ N) := M.acc T hb A fun i v g i' u h => by lia
  obtain ⟨j, m, hj, _⟩ := M.wit
  have Rk : Reach (Ed ahead) (-1) b k := .step (T.reached hb (heads_lt hh m).1 hj) m (by lia)
  obtain ⟨i, hi, W, h, _⟩ := E k hk 0 (by lia) Rk
  obtain ⟨_, hkh, _⟩ := A i k W hi h
  obtain ⟨p, ep, hp, hph, _⟩ := T.val k hk hkh M.kb
  obtain ⟨lp, up, hlp, _⟩ := T.chain hb hp hph
  obtain ⟨lk, uk, hlk, nd, _⟩ := T.chain hb hk hkh
  have pk : p ≠ k := by
   rintro rfl
   rcases T.val p hk hkh M.kb with ⟨q, e1, _, _, e4⟩
   rw [ep] at e1
   have : p = q := by have := Option.some.inj e1; lia
   subst this; lia
  have elk : lk = lp ++ [k] := uk.uniq (.step ep pk up)
  have uk' := M.upk T
  have hkh' : a'[k]? ≠ some (-1) := M.hung T k hkh
  have hfk : f ≠ k := fun e => M.kF (e ▸ M.up.mem_self)
  have pF : p ∈ F := by
   have d := acc_dom T hb A E hk hkh uk (x := p) (by rw [elk]; exact List.mem_append_left _ up.mem_self)
   refine Classical.byContradiction fun n => d (T'.out hb hk hkh' uk' fun q => ?_)
   rcases List.mem_append.mp q with q | q
   ·exact n q
   ·simp only [List.mem_singleton] at q; exact pk q
  have fl : f ∈ lp := by
   have d := acc_dom T' hb A' E hk hkh' uk' (x := f) (List.mem_append_left _ M.up.mem_self)
   refine Classical.byContradiction fun n => d (T.out hb hk hkh uk fun q => ?_)
   rw [elk] at q
   rcases List.mem_append.mp q with q | q
   ·exact n q
   ·simp only [List.mem_singleton] at q; exact hfk q
  obtain ⟨l1, u1, p1⟩ := M.up.sub pF
  rw [u1.uniq up] at p1
  obtain ⟨l2, u2, p2⟩ := up.sub fl
  rw [u2.uniq M.up] at p2
  have e : lp = F := p1.eq_of_length (Nat.le_antisymm p1.length_le p2.length_le)
  have : p = f := by
   have h1 := up.last_eq
   rw [e, M.up.last_eq] at h1
   exact (Option.some.inj h1).symm
  exact M.new (this ▸ ep)
theorem turns_none (h : ∀ k, k < ahead.length → turn b ahead a k = none) : ∀ m, m ≤ ahead.length → (List.range m).foldl (turns b ahead) (a, false) = (a, false)
 | 0, _ => rfl
 | m + 1, hm => by
  rw [List.range_succ, List.foldl_append, turns_none h m (by lia)]
  show turns b ahead (a, false) m = _
  unfold turns
  rw [h m (by lia)]
theorem turns_flag : ∀ m, ((List.range m).foldl (turns b ahead) (a, false)).2 = false → ((List.range m).foldl (turns b ahead) (a, false)).1 = a ∧ ∀ k, k < m → turn b ahead a k = none
 | 0, _ => ⟨rfl, fun k h => absurd h (Nat.not_lt_zero k)⟩
 | m + 1, h => by
  rw [List.range_succ, List.foldl_append] at h ⊢
  obtain ⟨z, hz⟩ : ∃ z, z = (List.range m).foldl (turns b ahead) (a, false) := ⟨_, rfl⟩
  have ih := turns_flag m
  rw [← hz] at h ih ⊢
  change (turns b ahead z m).2 = false at h
  show (turns b ahead z m).1 = a ∧ _
  unfold turns at h ⊢
  cases ht : turn b ahead z.1 m with
  | some a' => rw [ht] at h; cases h
  | none =>
   rw [ht] at h
   obtain ⟨e, q⟩ := ih h
   refine ⟨e, fun k hk => ?_⟩
   rcases Nat.lt_or_eq_of_le (Nat.le_of_lt_succ hk) with q' | rfl
   ·exact q k q'
   ·rw [e] at ht; exact ht
noncomputable def passN (b : Nat) (ahead : List (List Nat)) : Nat → List Int → List Int
 | 0, a => a
 | i + 1, a => passN b ahead i (pass b ahead a).1
theorem pass_acc (hb : b < ahead.length) (h6 : ahead.length ≤ 6) (hh : ∀ hs ∈ ahead, ∀ j ∈ hs, j < ahead.length) {N : Nat} (T : Tree ahead b a r) (A : Acc ahead b a (fun i _ => i ≤ N)) : ∃ r', Tree ahead b (pass b ahead a).1 r' ∧ Acc ahead b (pass b ahead a).1 (fun i _ => i ≤ N + 1) := by
 obtain ⟨r', T', A'⟩ := turns_at hb h6 hh N ahead.length (Nat.le_refl _) a r T fun i v W g h => A i v W (by rcases g with g | g <;> lia) h
 refine ⟨r', T', fun i v W g h => A' i v W ?_ h⟩
 have g : i ≤ N + 1 := g
 rcases Nat.lt_or_eq_of_le g with g | rfl
 ·exact .inl (by lia)
 ·cases h with
  | step h m => exact .inr ⟨rfl, (heads_lt hh m).2⟩
theorem passN_acc (hb : b < ahead.length) (h6 : ahead.length ≤ 6) (hh : ∀ hs ∈ ahead, ∀ j ∈ hs, j < ahead.length) : ∀ N (a : List Int) (r : Nat → Nat) M, Tree ahead b a r → Acc ahead b a (fun i _ => i ≤ M) → ∃ r', Tree ahead b (passN b ahead N a) r' ∧ Acc ahead b (passN b ahead N a) (fun i _ => i ≤ M + N)
 | 0, a, r, M, T, A => ⟨r, T, A⟩
 | N + 1, a, r, M, T, A => by
  obtain ⟨r', T', A'⟩ := pass_acc hb h6 hh T A
  obtain ⟨r₂, T₂, A₂⟩ := passN_acc hb h6 hh N _ r' (M + 1) T' A'
  exact ⟨r₂, T₂, fun i v W g h => A₂ i v W (by have g : i ≤ M + (N + 1) := g; show i ≤ M + 1 + N; lia) h⟩
theorem stops_of : ∀ N (a : List Int), (pass b ahead (passN b ahead N a)).2 = false → stops b ahead (N + 1) a
 | 0, a, h => fun q => by rw [show (pass b ahead a).2 = false from h] at q; cases q
 | N + 1, a, h => fun _ => stops_of N _ h
noncomputable def Fin (ahead : List (List Nat)) (b : Nat) (a : List Int) : Prop := ∃ r, Tree ahead b a r ∧ ∀ k, k < ahead.length → turn b ahead a k = none
theorem pass_tree (hb : b < ahead.length) (h6 : ahead.length ≤ 6) (hh : ∀ hs ∈ ahead, ∀ j ∈ hs, j < ahead.length) (T : Tree ahead b a r) : ∃ r', Tree ahead b (pass b ahead a).1 r' := by
 have : ∀ (l : List Nat), (∀ k ∈ l, k < ahead.length) → ∀ z : List Int × Bool, (∃ r, Tree ahead b z.1 r) → ∃ r, Tree ahead b (l.foldl (turns b ahead) z).1 r := by
  intro l
  induction l with
  | nil => intro _ z h; exact h
  | cons k l ih =>
   intro hl z ⟨r, h⟩
   rw [List.foldl_cons]
   refine ih (fun x hx => hl x (.tail _ hx)) _ ?_
   unfold turns
   cases ht : turn b ahead z.1 k with
   | none => exact ⟨r, h⟩
   | some a' =>
    obtain ⟨F, f, M⟩ := h.move hb h6 hh (hl k (.head _)) ht
    exact h.step hb hh M
 exact this (List.range ahead.length) (fun k hk => by simpa using hk) (a, false) ⟨r, T⟩
theorem settle_fin (hb : b < ahead.length) (h6 : ahead.length ≤ 6) (hh : ∀ hs ∈ ahead, ∀ j ∈ hs, j < ahead.length) : ∀ N (a : List Int) (r : Nat → Nat), Tree ahead b a r → stops b ahead N a → Fin ahead b (settle b ahead N a)
 | 0, a, r, T, h => h.elim
 | N + 1, a, r, T, h => by
  rw [settle]
  split
  ·rename_i q
   obtain ⟨r', T'⟩ := pass_tree hb h6 hh T
   exact settle_fin hb h6 hh N _ r' T' (h q)
  ·rename_i q
   have q : (pass b ahead a).2 = false := by simpa using q
   obtain ⟨e, z⟩ := turns_flag ahead.length q
   have e : (pass b ahead a).1 = a := e
   rw [e]
   exact ⟨r, T, z⟩
noncomputable def aZero (ahead : List (List Nat)) (b : Nat) : List Int := (ahead.map fun _ => (-1 : Int)).set b b
theorem zero_get (hb : b < ahead.length) (x : Nat) : (aZero ahead b)[x]? = if b = x then some (b : Int) else if x < ahead.length then some (-1) else none := by
 unfold aZero
 rw [set_get (by rw [List.length_map]; exact hb)]
 split
 ·rfl
 ·rw [List.getElem?_map]
  split
  ·rename_i h; rw [List.getElem?_eq_getElem h]; rfl
  ·rename_i h; rw [List.getElem?_eq_none (by lia)]; rfl
theorem tree_zero (hb : b < ahead.length) : Tree ahead b (aZero ahead b) fun _ => 0 where
 len := by unfold aZero; rw [List.length_set, List.length_map]
 root := by rw [zero_get hb, if_pos rfl]
 val := fun k hk h nb => by rw [zero_get hb, if_neg (Ne.symm nb), if_pos hk] at h; exact absurd rfl h
 hd := fun k hk nb h => by rw [zero_get hb, if_neg (Ne.symm nb), if_pos hk] at h; exact absurd rfl h
 path := fun k p nb e => by
  rw [zero_get hb, if_neg (Ne.symm nb)] at e
  split at e
  ·have := Option.some.inj e; lia
  ·cases e
theorem acc_zero (hb : b < ahead.length) : Acc ahead b (aZero ahead b) (fun i _ => i ≤ 0) := fun i v W g h => by
 have g : i ≤ 0 := g
 cases h with
 | base =>
  have T := tree_zero (ahead := ahead) hb
  refine ⟨hb, by rw [T.root]; intro e; have := Option.some.inj e; lia, fun l u x hx => ?_⟩
  rw [u.uniq (.root T.root)] at hx
  exact hx
 | step _ _ => lia
theorem stops_zero (hb : b < ahead.length) (h6 : ahead.length ≤ 6) (hh : ∀ hs ∈ ahead, ∀ j ∈ hs, j < ahead.length) : ∃ N, stops b ahead N (aZero ahead b) := by
 obtain ⟨N, E⟩ := enough ahead b
 obtain ⟨r, T, A⟩ := passN_acc hb h6 hh N _ _ 0 (tree_zero hb) (acc_zero hb)
 rw [Nat.zero_add] at A
 refine ⟨N + 1, stops_of N _ ?_⟩
 have := turns_none (b := b) (a := passN b ahead N (aZero ahead b)) (fun k hk => quiet T hb h6 hh A E hk) ahead.length (Nat.le_refl _)
 exact congrArg Prod.snd this
theorem fin_at (T : Tree ahead b a r) (hb : b < ahead.length) (h6 : ahead.length ≤ 6) (hh : ∀ hs ∈ ahead, ∀ j ∈ hs, j < ahead.length) (kb : k ≠ b) (ht : turn b ahead a k = none) {j : Nat} (m : (j, k) ∈ Ed ahead) (hj : a[j]? ≠ some (-1)) : ∃ F, Up a k (F ++ [k]) ∧ a[k]? ≠ some (-1) ∧ ∀ j, (j, k) ∈ Ed ahead → a[j]? ≠ some (-1) → ∀ l, Up a j l → F <+: l := by
 have hk := (heads_lt hh m).2
 have FSk := T.fspec hb h6 hh hk
 unfold turn at ht
 dsimp only at ht
 obtain ⟨F, hF⟩ : ∃ F, F = Dom.frontOf a (ahead.getD k []) := ⟨_, rfl⟩
 rw [← hF] at ht FSk
 rcases FSk with ⟨_, e⟩ | ⟨Fne, _, ⟨f, uf⟩, pre, _⟩
 ·exact absurd (e j (mem_Ed.mp m).2) hj
 ·have hl : F.getLast?.getD 0 = f := by rw [uf.last_eq]; rfl
  rw [hl] at ht
  have hka : k < a.length := by rw [T.len]; exact hk
  have ak : a[k]? = some (f : Int) := by
   split at ht
   ·cases ht
   ·rename_i c
    refine Classical.byContradiction fun q => c ?_
    simp only [Bool.and_eq_true, bne_iff_ne, ne_eq]
    refine ⟨by lia, Fne, fun e => q ?_⟩
    rw [List.getD_eq_getElem?_getD, List.getElem?_eq_getElem hka] at e
    rw [List.getElem?_eq_getElem hka]
    exact congrArg some e
  have hkh : a[k]? ≠ some (-1) := by rw [ak]; intro e; have := Option.some.inj e; lia
  have fk : f ≠ k := by
   rintro rfl
   obtain ⟨p, e1, _, _, e4⟩ := T.val f hk hkh kb
   rw [ak] at e1
   have : f = p := by have := Option.some.inj e1; lia
   subst this
   lia
  exact ⟨F, .step ak fk uf, hkh, fun j m => pre j (mem_Ed.mp m).2⟩
theorem fin_hung (T : Tree ahead b a r) (hb : b < ahead.length) (h6 : ahead.length ≤ 6) (hh : ∀ hs ∈ ahead, ∀ j ∈ hs, j < ahead.length) (ht : ∀ k, k < ahead.length → turn b ahead a k = none) {v : Nat} (R : Reach (Ed ahead) (-1) b v) : v < ahead.length ∧ a[v]? ≠ some (-1) := by
 have base : b < ahead.length ∧ a[b]? ≠ some (-1) := ⟨hb, by rw [T.root]; intro e; have := Option.some.inj e; lia⟩
 induction R with
 | base _ => exact base
 | @step x y _ m _ ih =>
  by_cases e : y = b
  ·subst e; exact base
  ·obtain ⟨F, _, h, _⟩ := fin_at T hb h6 hh e (ht y (heads_lt hh m).2) m ih.2
   exact ⟨(heads_lt hh m).2, h⟩
theorem chk (hb : b < ahead.length) (h6 : ahead.length ≤ 6) (hh : ∀ hs ∈ ahead, ∀ j ∈ hs, j < ahead.length) (Fn : Fin ahead b a) {v : Nat} (hv : v < ahead.length) :
  (chainOf a v).Nodup ∧ (∀ x ∈ chainOf a v, x < ahead.length) ∧ (chainOf a v).length ≤ ahead.length ∧ (¬ Reach (Ed ahead) (-1) b v → chainOf a v = []) ∧ (Reach (Ed ahead) (-1) b v → ∀ x, x ∈ chainOf a v ↔ Dm (Ed ahead) b v x) := by
 obtain ⟨r, T, ht⟩ := Fn
 have hva : v < a.length := by rw [T.len]; exact hv
 by_cases hh' : a[v]? = some (-1)
 ·have e : chainOf a v = [] := by
   unfold chainOf
   have : a.getD v (-1) = -1 := by rw [List.getD_eq_getElem?_getD, hh']; rfl
   rw [this]; rfl
  rw [e]
  refine ⟨by simp, (fun x hx => by cases hx), Nat.zero_le _, fun _ => rfl, fun R => absurd hh' (fin_hung T hb h6 hh ht R).2⟩
 ·obtain ⟨l, u, hl, nd, _⟩ := T.chain hb hv hh'
  have hlen := (T.facts hb u hv hh').2.2.2
  rw [chainOf_up u (by lia)]
  refine ⟨nd, fun x hx => (hl x hx).1, hlen, fun n => absurd (T.reached hb hv hh') n, fun R x => ⟨fun hx => ?_, fun d => ?_⟩⟩
  ·have h0 : ∀ x, (∃ l, Up a b l ∧ x ∈ l) → x = b := fun x ⟨l, u, hx⟩ => by
    rw [u.uniq (.root T.root)] at hx
    simpa using hx
   have hs : ∀ u v, Reach (Ed ahead) (-1) b u → (u, v) ∈ Ed ahead → v ≠ b → ∀ x, (∃ l, Up a v l ∧ x ∈ l) → x = v ∨ ∃ l, Up a u l ∧ x ∈ l := fun u' v' R' m nb x ⟨l, u, hx⟩ => by
    obtain ⟨hu, huh⟩ := fin_hung T hb h6 hh ht R'
    obtain ⟨F, uF, _, pre⟩ := fin_at T hb h6 hh nb (ht v' (heads_lt hh m).2) m huh
    rw [u.uniq uF] at hx
    obtain ⟨l', u', _⟩ := T.chain hb hu huh
    rcases List.mem_append.mp hx with q | q
    ·exact .inr ⟨l', u', (pre _ m huh l' u').subset q⟩
    ·exact .inl (by simpa using q)
   exact Dm.sub (D := fun v x => ∃ l, Up a v l ∧ x ∈ l) h0 hs R ⟨l, u, hx⟩
  ·refine Classical.byContradiction fun n => d (T.out hb hv hh' u n)
theorem chains_inv (hb : b < ahead.length) (h6 : ahead.length ≤ 6) (hh : ∀ hs ∈ ahead, ∀ j ∈ hs, j < ahead.length) (hl : ∀ hs ∈ ahead, hs.length ≤ 1000) : ChainsOK b ahead (fun a => ∃ r, Tree ahead b a r) where
 len := fun a ⟨r, T⟩ => T.len
 up := fun a ⟨r, T⟩ j hj h => by
  have hja : j < a.length := by rw [T.len]; exact hj
  have hjh : a[j]? ≠ some (-1) := fun e => h (by rw [List.getD_eq_getElem?_getD, e]; rfl)
  obtain ⟨l, u, _⟩ := T.chain hb hj hjh
  have hlen := (T.facts hb u hj hjh).2.2.2
  rw [chainOf_up u (by lia)]
  exact ⟨u, by lia⟩
 step := fun a ⟨r, T⟩ k hk a' ht => by
  obtain ⟨F, f, M⟩ := T.move hb h6 hh hk ht
  exact T.step hb hh M
 heads := fun hs h => ⟨hl hs h, hh hs h⟩
 small := h6
 begin := hb
end
section
open PyProof
theorem posIn_at {l : List Str} (h : Rising l) {k : Nat} (hk : k < l.length) : posIn l (l.getD k ⟨#[]⟩) = k := by
 obtain ⟨h1, h2, h3⟩ := posIn_spec h (l.getD k ⟨#[]⟩)
 rcases Nat.lt_trichotomy (posIn l (l.getD k ⟨#[]⟩)) k with q | q | q
 ·exact absurd (rising_get h q hk) (h3 _ (Nat.le_refl _) (by lia))
 ·exact q
 ·exact absurd (h2 k q) (ltS_irrefl _)
section
variable {xs : List Nat}
noncomputable def phi (xs : List Nat) (i : Nat) : Nat := posIn (rowOf xs) (nameAt i)
noncomputable def Used (xs : List Nat) (i : Nat) : Prop := i < 6 ∧ nameAt i ∈ rowOf xs
theorem phi_lt {i : Nat} (u : Used xs i) : phi xs i < (rowOf xs).length ∧ (rowOf xs).getD (phi xs i) ⟨#[]⟩ = nameAt i := posIn_get (row_rising xs) u.2
theorem phi_inj {i j : Nat} (u : Used xs i) (u' : Used xs j) (h : phi xs i = phi xs j) : i = j := by
 have h1 := (phi_lt u).2
 rw [h, (phi_lt u').2] at h1
 exact (name_inj _ u'.1 _ u.1 h1).symm
theorem row_at {k : Nat} (hk : k < (rowOf xs).length) : ∃ i, Used xs i ∧ (rowOf xs).getD k ⟨#[]⟩ = nameAt i ∧ k = phi xs i := by
 have m : (rowOf xs).getD k ⟨#[]⟩ ∈ rowOf xs := by
  rw [List.getD_eq_getElem?_getD, List.getElem?_eq_getElem hk]; exact List.getElem_mem hk
 obtain ⟨i, hi, e⟩ := row6 _ m
 refine ⟨i, ⟨hi, e ▸ m⟩, e, ?_⟩
 unfold phi
 rw [← e, posIn_at (row_rising xs) hk]
theorem mem_ways {p : Nat × Nat} (h : p ∈ waysL xs) : Used xs p.1 ∧ Used xs p.2 := by
 unfold waysL at h
 obtain ⟨x, hx, hp⟩ := List.mem_flatMap.mp h
 have hl : Used xs (leftOf x) := ⟨(lt6 x).1, mem_row.mpr ⟨x, hx, .inl rfl⟩⟩
 have hr : Used xs (rightOf x) := ⟨(lt6 x).2, mem_row.mpr ⟨x, hx, .inr rfl⟩⟩
 rw [ways_of] at hp
 rcases List.mem_append.mp hp with hp | hp
 ·split at hp
  ·simp only [List.mem_singleton] at hp; subst hp; exact ⟨hl, hr⟩
  ·cases hp
 ·split at hp
  ·simp only [List.mem_singleton] at hp; subst hp; exact ⟨hr, hl⟩
  ·cases hp
theorem w6 : ∀ p ∈ waysL xs, p.1 < 6 ∧ p.2 < 6 := fun p hp => ⟨(mem_ways hp).1.1, (mem_ways hp).2.1⟩
theorem waysOf_len (x : Nat) : (waysOf x).length ≤ 2 := by
 rw [ways_of, List.length_append]
 split <;> split <;> simp
theorem ways_len : ∀ xs : List Nat, (waysL xs).length ≤ 2 * xs.length
 | [] => Nat.le_refl _
 | x :: xs => by
  have h1 := ways_len xs
  have h2 := waysOf_len x
  unfold waysL at h1 ⊢
  rw [List.flatMap_cons, List.length_append, List.length_cons]
  lia
theorem ahead_len : (aheadL xs).length = (rowOf xs).length := List.length_map _
theorem ahead_get {k : Nat} (hk : k < (rowOf xs).length) : (aheadL xs).getD k [] = (allOf (tabL xs) ((rowOf xs).getD k ⟨#[]⟩)).map (posIn (rowOf xs)) := by
 unfold aheadL
 rw [List.getD_eq_getElem?_getD, List.getElem?_map, List.getD_eq_getElem?_getD, List.getElem?_eq_getElem hk]
 rfl
theorem mem_allOf {l : List (Str × Str)} {x y : Str} : y ∈ allOf l x ↔ (x, y) ∈ l := by
 unfold allOf
 rw [List.mem_map]
 constructor
 ·rintro ⟨⟨a, b⟩, h, rfl⟩
  obtain ⟨h1, h2⟩ := List.mem_filter.mp h
  rw [beq_iff_eq] at h2
  have h2 : a = x := h2
  subst h2; exact h1
 ·intro h
  exact ⟨(x, y), List.mem_filter.mpr ⟨h, by simp⟩, rfl⟩
theorem mem_tab {x y : Str} : (x, y) ∈ tabL xs ↔ ∃ p ∈ waysL xs, x = nameAt p.2 ∧ y = nameAt p.1 := by
 unfold tabL stepsL
 rw [List.map_map, List.mem_map]
 constructor
 ·rintro ⟨p, hp, e⟩
  cases e
  exact ⟨p, hp, rfl, rfl⟩
 ·rintro ⟨p, hp, rfl, rfl⟩
  exact ⟨p, hp, rfl⟩
theorem mem_EdA {j k : Nat} : (j, k) ∈ Ed (aheadL xs) ↔ ∃ p ∈ waysL xs, j = phi xs p.1 ∧ k = phi xs p.2 := by
 rw [mem_Ed, ahead_len]
 constructor
 ·rintro ⟨hk, hj⟩
  rw [ahead_get hk] at hj
  obtain ⟨y, hy, rfl⟩ := List.mem_map.mp hj
  obtain ⟨p, hp, e1, rfl⟩ := mem_tab.mp (mem_allOf.mp hy)
  refine ⟨p, hp, rfl, ?_⟩
  unfold phi
  rw [← e1, posIn_at (row_rising xs) hk]
 ·rintro ⟨p, hp, rfl, rfl⟩
  obtain ⟨u1, u2⟩ := mem_ways hp
  obtain ⟨h1, h2⟩ := phi_lt u2
  refine ⟨h1, ?_⟩
  rw [ahead_get h1, h2]
  exact List.mem_map.mpr ⟨nameAt p.1, mem_allOf.mpr (mem_tab.mpr ⟨p, hp, rfl, rfl⟩), rfl⟩
theorem ahead_heads : ∀ hs ∈ aheadL xs, ∀ j ∈ hs, j < (aheadL xs).length := fun hs h j hj => by
 rw [ahead_len]
 unfold aheadL at h
 obtain ⟨pl, hpl, rfl⟩ := List.mem_map.mp h
 obtain ⟨y, hy, rfl⟩ := List.mem_map.mp hj
 obtain ⟨p, hp, _, rfl⟩ := mem_tab.mp (mem_allOf.mp hy)
 exact (phi_lt (mem_ways hp).1).1
theorem ahead_hlen (h : xs.length = 7) : ∀ hs ∈ aheadL xs, hs.length ≤ 1000 := fun hs m => by
 unfold aheadL at m
 obtain ⟨pl, hpl, rfl⟩ := List.mem_map.mp m
 rw [List.length_map]
 unfold allOf
 rw [List.length_map]
 refine Nat.le_trans (List.length_filter_le _ _) ?_
 unfold tabL stepsL
 rw [List.length_map, List.length_map]
 have := ways_len xs
 lia
theorem toEd {wo wo' : Int} {b v : Nat} (hb : Used xs b) (hc : ∀ z, Used xs z → (z : Int) ≠ wo → (phi xs z : Int) ≠ wo') (h : Reach (waysL xs) wo b v) : Reach (Ed (aheadL xs)) wo' (phi xs b) (phi xs v) ∧ Used xs v := by
 induction h with
 | base n => exact ⟨.base (hc b hb n), hb⟩
 | step _ m n ih =>
  have u := (mem_ways m).2
  exact ⟨.step ih.1 (mem_EdA.mpr ⟨_, m, rfl, rfl⟩) (hc _ u n), u⟩
theorem ofEd {wo wo' : Int} {b k : Nat} (hb : Used xs b) (hc : ∀ z, Used xs z → (phi xs z : Int) ≠ wo' → (z : Int) ≠ wo) (h : Reach (Ed (aheadL xs)) wo' (phi xs b) k) : ∃ v, Used xs v ∧ k = phi xs v ∧ Reach (waysL xs) wo b v := by
 induction h with
 | base n => exact ⟨b, hb, rfl, .base (hc b hb n)⟩
 | @step j k _ m n ih =>
  obtain ⟨v, u, e, r⟩ := ih
  obtain ⟨p, hp, e1, e2⟩ := mem_EdA.mp m
  obtain ⟨u1, u2⟩ := mem_ways hp
  have := phi_inj u u1 (e.symm.trans e1)
  subst this
  subst e2
  exact ⟨p.2, u2, rfl, .step r hp (hc _ u2 n)⟩
theorem reachEd {b v : Nat} (hb : Used xs b) (hv : Used xs v) : Reach (Ed (aheadL xs)) (-1) (phi xs b) (phi xs v) ↔ Reach (waysL xs) (-1) b v := by
 constructor
 ·intro h
  obtain ⟨v', u, e, r⟩ := ofEd (wo := -1) hb (fun z _ _ => by lia) h
  rw [phi_inj hv u e]; exact r
 ·exact fun h => (toEd hb (fun z _ _ => by lia) h).1
theorem dmEd {b v d : Nat} (hb : Used xs b) (hv : Used xs v) (hd : Used xs d) : Dm (Ed (aheadL xs)) (phi xs b) (phi xs v) (phi xs d) ↔ Dm (waysL xs) b v d := by
 constructor
 ·intro h r
  refine h (toEd hb (fun z u n e => n ?_) r).1
  have : phi xs z = phi xs d := by lia
  rw [phi_inj u hd this]
 ·intro h r
  have hc : ∀ z, Used xs z → (phi xs z : Int) ≠ (phi xs d : Int) → (z : Int) ≠ (d : Int) := fun z u n e => n (by
   have : z = d := by lia
   rw [this])
  obtain ⟨v', u, e, r⟩ := ofEd (wo := (d : Int)) hb hc r
  rw [← phi_inj hv u e] at r
  exact h r
theorem dm_used {b v d : Nat} (hb : Used xs b) (hd : d < 6) (h : Dm (waysL xs) b v d) (r : Reach (waysL xs) (-1) b v) : Used xs d := by
 refine Classical.byContradiction fun n => h ?_
 have ne : ∀ z, Used xs z → (z : Int) ≠ (d : Int) := fun z u e => n (by
  have : z = d := by lia
  exact this ▸ u)
 clear h
 induction r with
 | base _ => exact .base (ne b hb)
 | @step x y r m _ ih => exact .step ih m (ne y (mem_ways m).2)
theorem reach_used {b v : Nat} (hb : Used xs b) (r : Reach (waysL xs) (-1) b v) : Used xs v := by
 cases r with
 | base _ => exact hb
 | step _ m _ => exact (mem_ways m).2
theorem sortS_perm {l l' : List Str} (p : l.Perm l') : sortS l = sortS l' :=
 perm_uniq leS_anti (sortS_sorted l) (sortS_sorted l') (((List.mergeSort_perm _ _).trans p).trans (List.mergeSort_perm _ _).symm)
theorem perm_same {l l' : List Str} (h : l.Nodup) (h' : l'.Nodup) (m : ∀ x, x ∈ l ↔ x ∈ l') : l.Perm l' := by
 rw [List.perm_iff_count]
 intro a
 rw [h.count, h'.count]
 by_cases q : a ∈ l
 ·rw [if_pos q, if_pos ((m a).mp q)]
 ·rw [if_neg q, if_neg fun z => q ((m a).mpr z)]
theorem nodup_map {α : Type} {f : α → Str} {l : List α} (h : l.Nodup) (inj : ∀ x ∈ l, ∀ y ∈ l, f x = f y → x = y) : (l.map f).Nodup := by
 unfold List.Nodup
 rw [List.pairwise_map]
 exact List.Pairwise.imp_of_mem (fun {a b} ha hb n e => n (inj a ha b hb e)) h
end
end
section
open PyProof
section
variable {xs : List Nat}
theorem domOf_nodup (ways : List (Nat × Nat)) (b v : Nat) : (domOf names6 ways b v).Nodup := by
 have e : domOf names6 ways b v = ((List.range 6).filter fun d : Nat => !(reachF ways b (d : Int)).contains v).map nameAt := by
  have : ∀ (p : Nat → Bool) (l : List Nat), l.filterMap (fun d => if p d then some (names6.getD d ⟨#[]⟩) else none) = (l.filter p).map nameAt := by
   intro p l
   induction l with
   | nil => rfl
   | cons a l ih =>
    rw [List.filterMap_cons, List.filter_cons]
    cases h : p a
    ·simpa using ih
    ·simp only [if_true, List.map_cons, ih]; rfl
  exact this (fun d : Nat => !(reachF ways b (d : Int)).contains v) (List.range 6)
 rw [e]
 refine nodup_map (List.nodup_range.filter _) fun x hx y hy h => ?_
 have h1 := List.mem_range.mp (List.mem_filter.mp hx).1
 have h2 := List.mem_range.mp (List.mem_filter.mp hy).1
 exact name_inj x h1 y h2 h
theorem told_at {res : List Int} {b : Nat} (hb : Used xs b) (Fn : Fin (aheadL xs) (phi xs b) res) {v : Nat} (hv : v < 6) (chains : List (List Nat)) (hc : ∀ k, k < (rowOf xs).length → chains.getD k [] = chainOf res k) : toldAt (rowOf xs) chains (nameAt v) = dueAt names6 (waysL xs) b v := by
 have hb6 : b < 6 := hb.1
 have n6 : (aheadL xs).length ≤ 6 := by rw [ahead_len]; exact row_len xs
 have hbl : phi xs b < (aheadL xs).length := by rw [ahead_len]; exact (phi_lt hb).1
 by_cases u : Used xs v
 ·obtain ⟨pv, _⟩ := phi_lt u
  obtain ⟨c1, c2, _, c4, c5⟩ := chk hbl n6 ahead_heads Fn (v := phi xs v) (by rw [ahead_len]; exact pv)
  unfold toldAt
  rw [if_pos (List.contains_iff_mem.mpr u.2), show posIn (rowOf xs) (nameAt v) = phi xs v from rfl, hc _ pv]
  unfold dueAt
  by_cases r : Reach (waysL xs) (-1) b v
  ·rw [if_pos ((reach_contains w6 hb6 v).mpr r)]
   have c5 := c5 ((reachEd hb u).mpr r)
   refine sortS_perm (perm_same (nodup_map c1 fun x hx y hy e => ?_) (domOf_nodup _ _ _) fun s => ?_)
   ·obtain ⟨i, ui, e1, rfl⟩ := row_at (by rw [← ahead_len]; exact c2 x hx)
    obtain ⟨j, uj, e2, rfl⟩ := row_at (by rw [← ahead_len]; exact c2 y hy)
    rw [e1, e2] at e
    rw [name_inj _ ui.1 _ uj.1 e]
   ·rw [List.mem_map, mem_domOf w6 hb6]
    constructor
    ·rintro ⟨j, hj, rfl⟩
     obtain ⟨i, ui, e1, rfl⟩ := row_at (by rw [← ahead_len]; exact c2 j hj)
     exact ⟨i, ui.1, e1, (dmEd hb u ui).mp ((c5 _).mp hj)⟩
    ·rintro ⟨d, hd, rfl, dm⟩
     have ud := dm_used hb hd dm r
     exact ⟨phi xs d, (c5 _).mpr ((dmEd hb u ud).mpr dm), (phi_lt ud).2⟩
  ·rw [if_neg fun h => r ((reach_contains w6 hb6 v).mp h), c4 fun h => r ((reachEd hb u).mp h)]
   simp [sortS]
 ·unfold toldAt dueAt
  rw [if_neg fun h => u ⟨hv, List.contains_iff_mem.mp h⟩, if_neg fun h => u (reach_used hb ((reach_contains w6 hb6 v).mp h))]
theorem begin_eq {x : Nat} {ys : List Nat} (h : xs = x :: ys) : begR xs = phi xs (begN xs) ∧ Used xs (begN xs) := by
 subst h
 refine ⟨?_, (lt6 x).1, mem_row.mpr ⟨x, .head _, .inl rfl⟩⟩
 unfold begR phi
 congr 1
 rw [psOf_eq]
 cases ys with
 | nil => rfl
 | cons y ys => rfl
theorem law_facts (h7 : xs.length = 7) (hlt : ∀ x ∈ xs, x < 3888) : ∃ F zs Inv InvK r, LawF xs F zs Inv InvK r := by
 obtain ⟨x, ys, hx⟩ : ∃ x ys, xs = x :: ys := by
  cases xs with
  | nil => cases h7
  | cons x ys => exact ⟨x, ys, rfl⟩
 obtain ⟨eb, ub⟩ := begin_eq hx
 have n6 : (aheadL xs).length ≤ 6 := by rw [ahead_len]; exact row_len xs
 have hbl : begR xs < (aheadL xs).length := by rw [ahead_len, eb]; exact (phi_lt ub).1
 have hwl : (waysL xs).length ≤ 14 := by have := ways_len xs; lia
 obtain ⟨F, hF⟩ := stops_zero hbl n6 ahead_heads
 have T0 := tree_zero (ahead := aheadL xs) hbl
 have Fn := settle_fin hbl n6 ahead_heads F _ _ T0 hF
 obtain ⟨syms, hsy⟩ : ∃ syms, syms = (psOf xs).map (symOf (rowOf xs)) ++ [0] := ⟨_, rfl⟩
 have run : runL (rowOf xs) ([], []) syms = some ([], stepsL xs) := by
  have := all_run (row_rising xs) xs (by rw [hx]; simp) (fun z hz => ⟨mem_row.mpr ⟨z, hz, .inl rfl⟩, mem_row.mpr ⟨z, hz, .inr rfl⟩⟩) []
  rw [hsy, psOf_eq, List.map_map]
  rw [List.nil_append] at this
  exact this
 obtain ⟨zs, hzs⟩ : ∃ zs : Nat → List D × List (Str × Str), zs = fun i => (runL (rowOf xs) ([], []) (syms.take i)).getD ([], []) := ⟨_, rfl⟩
 have zrun : ∀ i, runL (rowOf xs) ([], []) (syms.take i) = some (zs i) := fun i => by
  have h1 := run
  rw [← List.take_append_drop i syms, runL_app] at h1
  have e : zs i = (runL (rowOf xs) ([], []) (syms.take i)).getD ([], []) := by rw [hzs]
  rw [e]
  cases h : runL (rowOf xs) ([], []) (syms.take i) with
  | none => rw [h] at h1; cases h1
  | some z => rfl
 have hsl : syms.length = (psOf xs).length + 1 := by rw [hsy]; simp
 have hsg : signL.all (fun e => decide (e.2 < 2 ^ 40)) = true := by decide +kernel
 have hlen := row_len xs
 have told : toldL xs F = dueL xs := by
  unfold toldL toldF dueL dueF
  have hn : names6 = (List.range 6).map nameAt := by decide +kernel
  have h1 : names6.map (toldAt (rowOf xs) (chainsL xs F)) = (List.range 6).map fun v => toldAt (rowOf xs) (chainsL xs F) (nameAt v) := by
   conv => lhs; rw [hn, List.map_map]
   rfl
  rw [h1]
  refine List.map_congr_left fun v hv => ?_
  have hv : v < 6 := List.mem_range.mp hv
  rw [eb] at Fn
  refine told_at ub Fn hv _ fun k hk => ?_
  unfold chainsL
  rw [List.getD_eq_getElem?_getD, List.getElem?_map, List.getElem?_range (by rw [ahead_len]; exact hk)]
  rw [eb]
  show chainOf (settle (phi xs (begN xs)) (aheadL xs) F (a0 xs)) k = _
  unfold a0
  rw [eb]
  rfl
 refine ⟨F, zs, _, _, _, ⟨hlt, h7, join_ok h7, text_len h7, prep_len h7, by have := ps_len h7; lia, ?_, hlen, fun y hy => ?_, by rw [hzs]; rfl, fun i s hs => ⟨?_, ?_⟩, fun i hi => ?_, ?_, w6, hwl, chains_inv hbl n6 ahead_heads (ahead_hlen h7), ⟨_, T0⟩, hF, fun nm hnm hc => ?_, fun c hc => ?_, told, shrink_inv _, graph0 w6 ub.1 (by lia), emp_shrink w6 ub.1 (by lia), rfl⟩⟩
 ·rw [psOf_eq, hx]
  cases ys with
  | nil => simp [toksX, tokR]
  | cons y ys => simp [toksX, tokR]
 ·obtain ⟨i, hi, rfl⟩ := row6 y hy
  exact name_mem hi
 ·have hm := List.mem_of_getElem? hs
  rcases List.mem_append.mp hm with hm | hm
  ·obtain ⟨p, hp, rfl⟩ := List.mem_map.mp hm
   unfold symOf
   cases e : sign? p with
   | none =>
    have := (posIn_spec (row_rising xs) p).1
    show (256 + (posIn (rowOf xs) p : Int)) < 2 ^ 40
    have : (2 : Int) ^ 40 = 1099511627776 := by decide
    lia
   | some n =>
    exact of_decide_eq_true (List.all_eq_true.mp hsg _ (lookup_mem' e))
  ·simp only [List.mem_singleton] at hm
   subst hm; decide
 ·rw [← hsy] at hs
  have h1 := zrun (i + 1)
  rw [List.take_add_one, hs, Option.toList_some, runL_app, zrun i] at h1
  have h2 : (stepS (rowOf xs) (zs i) s).bind (fun z' => some z') = some (zs (i + 1)) := h1
  cases h : stepS (rowOf xs) (zs i) s with
  | none => rw [h] at h2; cases h2
  | some z => rw [h] at h2; exact h2
 ·obtain ⟨h1, h2⟩ := run_len _ _ _ _ (zrun i)
  have h3 := ps_len h7
  have h4 : (syms.take i).length ≤ i := by rw [List.length_take]; lia
  have h1 : (zs i).1.length ≤ 0 + (syms.take i).length := h1
  have h2 : (zs i).2.length ≤ 0 + 2 * (syms.take i).length := h2
  lia
 ·have h1 := zrun ((psOf xs).length + 1)
  rw [← hsl, List.take_length, run] at h1
  rw [← hsl, ← Option.some.inj h1]
 ·unfold chainsL
  rw [List.length_map, List.length_range, ahead_len]
  exact (posIn_get (row_rising xs) (List.contains_iff_mem.mp hc)).1
 ·unfold chainsL at hc
  obtain ⟨k, hk, rfl⟩ := List.mem_map.mp hc
  obtain ⟨_, c2, c3, _⟩ := chk hbl n6 ahead_heads Fn (v := k) (List.mem_range.mp hk)
  exact ⟨Nat.le_trans c3 n6, fun j hj => by rw [← ahead_len]; exact c2 j hj⟩
end
theorem xs_ok (s : List Int) : (xsOf s).length = 7 ∧ ∀ x ∈ xsOf s, x < 3888 := by
 constructor
 ·unfold xsOf numsOf
  rw [List.length_map, List.length_append, List.length_drop, List.length_take, show dfl.length = 7 from rfl]
  lia
 ·intro x hx
  unfold xsOf at hx
  obtain ⟨z, _, rfl⟩ := List.mem_map.mp hx
  have h1 := Int.emod_nonneg z (show (3888 : Int) ≠ 0 by decide)
  have h2 := Int.emod_lt_of_pos z (show (0 : Int) < 3888 by decide)
  lia
theorem law_true (w : World) (k : Nat) (script : List Int) (hs : script.length ≤ 63) : FnOK w (k + 6) 385 [.lst (script.map .int)] [] (.bool true) := by
 obtain ⟨h7, hlt⟩ := xs_ok script
 obtain ⟨F, zs, Inv, InvK, r, L⟩ := law_facts h7 hlt
 exact law_ok w k script hs L
end
theorem fa_eq {w : World} {h : Heap} {mg : Str → Option Value} {fa : Addr} (Y : Says w h) (g : h.Ns mainGlobals mg) (e : mg (Str.ofString "law") = some (.ref fa)) : fa = 385 := by
 have n : (H1 w.params).Ns mainGlobals ((H1 w.params).nsMap mainGlobals) := Heap.Ns.of_isNs (show (H1 w.params).isNs mainGlobals = true by kernel_rfl)
 have n' : h.Ns mainGlobals ((H1 w.params).nsMap mainGlobals) := n.at' fun o eo => Y _ o eo
 obtain ⟨o, es, ep, e1, e2, _, e3⟩ := g
 obtain ⟨o', es', ep', e1', e2', _, e3'⟩ := n'
 rw [e1] at e1'; cases e1'
 rw [e2] at e2'; cases e2'
 have : (H1 w.params).nsMap mainGlobals (Str.ofString "law") = some (.ref 385) := by kernel_rfl
 rw [← e3', e3, e] at this
 cases this; rfl
theorem room0 : Room callerA 6 := ⟨rfl, by decide, by decide⟩
theorem oldK_kp {w : World} {h h' : Heap} (Y : Says w h) (k : Kp h h') : OldK h h' := by
 refine ⟨fun b o e => ?_, fun b o e => ?_⟩
 ·by_cases hb : b = TF
  ·subst hb
   obtain ⟨o', vs, e', d⟩ : ∃ o vs, (H1 w.params).get? TF = some o ∧ o.cls = .none ∧ o.data = .fields vs := ⟨o345, _, by kernel_rfl, rfl, rfl⟩
   have e'' := Y _ _ e'
   rw [e] at e''; cases e''
   obtain ⟨m, em⟩ := k.tab o vs e d.2
   obtain ⟨oc, vc, c1, c2, c3, c4⟩ : ∃ oc vc, (H1 w.params).get? 347 = some oc ∧ oc.cls = .type "code" ∧ oc.data = .fields vc ∧ vc[11]? = some (.ref TF) := ⟨o347, _, by kernel_rfl, rfl, rfl, by kernel_rfl⟩
   exact .inr (.inl ⟨⟨347, oc, vc, Y _ _ c1, c2, c3, c4⟩, d.1, vs, m, d.2, em⟩)
  ·exact .inl (k.get b o hb (fun z => z) e)
 ·by_cases hb : b = TF
  ·subst hb
   obtain ⟨o', vs, e', d⟩ : ∃ o vs, (H1 w.params).get? TF = some o ∧ o.data = .fields vs := ⟨o345, _, by kernel_rfl, rfl⟩
   have e'' := Y _ _ e'
   rw [e] at e''; cases e''
   obtain ⟨m, em⟩ := k.tab o vs e d
   exact ⟨_, em⟩
  ·exact ⟨o, k.get b o hb (fun z => z) e⟩
theorem at_intsL {h : Heap} : ∀ {vs : List Value} {l : List Int}, IntsAre vs l → AtL h anyN vs (l.map .int)
 | _, _, .nil => .nil
 | _, _, .cons i t r => .cons (.int i t) (at_intsL r)
theorem at_ints {w : World} {h : Heap} {a : Addr} {vs : List Value} {l : List Int} (Y : Says w h) (hl : h.IsList a vs.toArray) (hi : IntsAre vs l) : At h anyN (.ref a) (.lst (l.map .int)) := by
 refine .lst ?_ hl (at_intsL hi)
 rintro rfl
 obtain ⟨o', vs, e', d⟩ : ∃ o vs, (H1 w.params).get? TF = some o ∧ o.data = .fields vs := ⟨o345, _, by kernel_rfl, rfl⟩
 obtain ⟨o, e, _, n, d'⟩ := hl
 rw [Y _ _ e'] at e; cases e
 rw [d] at d'; cases d'
theorem final {w : World} {s₁ : Shared} {v : Value} {script : List Int} {Q : Value → Shared → Prop} {E : Value → Shared → Prop} (hs : script.length ≤ 63) (Y : Says w s₁.heap) (hv : At s₁.heap anyN v (.lst (script.map .int))) (q : ∀ s', OldK s₁.heap s'.heap → s'.os = s₁.os → s'.gens = s₁.gens → Q (.bool true) s') : wpAny (model pr w) callerA (call (.ref 385) [v]) Q E s₁ := by
 refine law_true w 0 script hs callerA s₁ Q E [v] [] room0 (.of Y) (.cons hv .nil) .nil fun r s' z a => ?_
 refine a.cB ?_
 obtain ⟨h, t, e, k⟩ := z
 subst e
 exact q _ (oldK_kp Y k) rfl rfl
end Dom
theorem PySem.Challenge.cw_wf0120_01_holds : PySem.Challenge.rw_wf0120_01.Holds := by
 w_on
 refine holds_law Dom.said0 fun said => ?_
 refine holds_open (q := Dom.q') (loose := Dom.loose') (Xt := fun _ => true) (XP := fun _ _ => True) (Yf := fun s => s.heap) (Ya := fun w => Dom.H1 w.params) (YP := Dom.Says) (N := 100000) Dom.left ?hY ?hYk (fun _ _ => trivial) (fun _ _ _ _ _ => trivial) (by rfl) (by rfl) (by rfl) (fun s _ => recFacts_nil rfl) (by rfl) (by first | assumption | decide +kernel) (by decide +kernel) ⟨rfl, rfl, rfl, rfl, rfl, by decide +kernel⟩ ?hw ?hc
 case hw => w_witness2
 case hY => intro w s e b o h; rw [← e] at h; exact h
 case hYk => intro w h h' y k b o e; exact k b o (y b o e)
 case hc =>
  intro w s₀ s₁ mg mb G Y fa o pm cd doc dV kV ho hd hcd hD hmg hg args vals as hpre hlay hrd hwl hlo
  have e385 : fa = 385 := Dom.fa_eq Y G.T.g hmg
  subst e385
  clear hd hcd hD hmg ho
  wrow_args hpre hlay hrd hwl hlo
  have hI := ‹IntsAre _ _›
  have hl := ‹Heap.IsList _ _ _›
  refine Dom.final ?_ Y (Dom.at_ints Y hl hI) ?_
  ·omega
  intro s' hk ho hg'
  refine ⟨.inl ⟨_, _, _, rfl, fun _ => ?_, .bool true, ?_, fun _ => ⟨.nil, by simp⟩⟩, hk, ho, .of_eq (hg'.trans hg)⟩
  ·first | rfl | kernel_rfl | skip
  ·first | rfl | kernel_rfl | skip
